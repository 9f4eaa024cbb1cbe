import PyProof.Rows.All
import Wide.All
import OpenK.AllK
import Wide.FinOn
import KE.KBoundM
import KE.KPar
import KE.KPairComp
import KE.KDictIter
import KE.KFromBytes
import KE.KTryMore
import KE.KDictList
import PyProof.ExcBaseAll.ValueError
import KE.KEqDict
import PySem.Challenge.RW_pm0076_01
open PySem PySem.W PySem.Calls PyProof.Rows
set_option Elab.async false
set_option maxRecDepth 100000
set_option linter.all false
section
namespace Mine
def aS (k:Lean.Name) (a:Array Lean.Syntax):Lean.Syntax:=.node .none `Lean.Parser.Tactic.tacticSeq #[.node .none `Lean.Parser.Tactic.tacticSeq1Indented #[.node .none `null #[.node .none k a]]]
def aR:Lean.Syntax:=aS `Lean.Parser.Tactic.tacticRfl #[.atom .none "rfl"]
def aD:Lean.Syntax:=aS `Lean.Parser.Tactic.decide #[.atom .none "decide",.node .none `Lean.Parser.Tactic.optConfig #[.node .none `null #[]]]
theorem cps {p:Prop} (h:∀ q:Prop,(p→q)→q):p:=h p id
theorem le_lit {x a b:Nat} (h:x≤a) (e:Nat.ble a b=true):x≤b:=Nat.le_trans h (Nat.le_of_ble_eq_true e)
theorem lt_lit {x a b:Nat} (h:x≤a) (e:Nat.blt a b=true):x < b:=Nat.lt_of_le_of_lt h (Nat.le_of_ble_eq_true e)
theorem ltl_lit {x a b:Nat} (h:x < a) (e:Nat.ble a b=true):x < b:=Nat.lt_of_lt_of_le h (Nat.le_of_ble_eq_true e)
theorem lel_lit {x a b:Nat} (h:x < a) (e:Nat.ble a b=true):x≤b:=Nat.le_of_lt (ltl_lit h e)
theorem ig_lit {x a b:Int} (h:a≤x) (k:x < b) (e:decide (b≤a)=true):False:=absurd (Int.lt_of_le_of_lt h k) (Int.not_lt.mpr (of_decide_eq_true e))
theorem il_lit {x a b:Int} (k:x < a) (e:decide (a≤b)=true):x < b:=Int.lt_of_lt_of_le k (of_decide_eq_true e)
theorem in_lit {x a b:Int} (h:a≤x) (e:decide (b < a)=true):x≠b:=fun q=>absurd (q▸h:a≤b) (Int.not_le.mpr (of_decide_eq_true e))
section
variable {a b c d e f g i j:Nat} {x y z u v w:Int}
theorem tnA (h:x≤y):x+((Int.toNat (y - x):Nat):Int)=y:=by rw [Int.toNat_of_nonneg (Int.sub_nonneg_of_le h),Int.add_comm,Int.sub_add_cancel]
theorem om0:(-(2:Int)^63)≤(-(1:Int)):=by decide
theorem om1:(-(1:Int)) < (0:Int):=by decide
theorem om2:(0:Nat)≤(800:Nat):=by decide
theorem om3:(1:Nat)≤(5:Nat):=by decide
theorem om4:(1:Nat)≤(6:Nat):=by decide
theorem om5:(5:Nat)≤(6:Nat):=by decide
theorem om6:(64:Nat)≤(800:Nat):=by decide
theorem om7:7+x - 7=x:=by lia -abstractProof
theorem om8:0≤x∧x < 192→0≤x / 48∧x / 48 < 4:=by lia -abstractProof
theorem om9:0≤x∧x < 4→(-2^63)≤x:=fun h=>Int.le_trans (by decide) h.1
theorem om10:0≤x∧x < 4→Int.toNat x < 7:=fun h=>(Int.toNat_lt h.1).mpr (Int.lt_trans h.2 (by decide))
theorem om11:0≤x∧x < 4→x=0∨x=1∨x=2∨x=3:=by lia -abstractProof
theorem om12:0≤x∧x < 4→x < 2^63:=fun h=>Int.lt_trans h.2 (by decide)
theorem om13:0≤x∧x < 48→7≤7+x∧7+x < 55:=fun h=>⟨Int.le_add_of_nonneg_right h.1,(Int.add_lt_add_left h.2 7:7+x < 7+48)⟩
theorem om14:0≤x∧x < 48→¬256≤7+x:=by lia -abstractProof
theorem om15:0≤x∧x < 7→Int.toNat x < 7:=fun h=>(Int.toNat_lt h.1).mpr h.2
theorem om16:0≤x∧x < 7→x < 7:=fun h=>h.2
theorem om17:0≤x→x < 4→x=0∨x=1∨x=2∨x=3:=by lia -abstractProof
theorem om18:256≤x→x < 0→False:=by lia -abstractProof
theorem om19:256≤x→x < 256→False:=by lia -abstractProof
theorem om20:256≤x→x < 260→256+((Int.toNat (x - 256):Nat):Int)=x:=fun h _=>tnA h
theorem om21:256≤x→x < 260→x - 256 < 4:=by lia -abstractProof
theorem om22:256≤x→x < 260→x=256∨x=257∨x=258∨x=259:=by lia -abstractProof
theorem om23:256≤x→x < 55→False:=by lia -abstractProof
theorem om24:256≤x→x≠0:=by intros;exact in_lit ‹_› rfl
theorem om25:256≤x→¬x < 256:=by intros;exact fun h=>ig_lit ‹_› h rfl
theorem om26:7≤x→7+((Int.toNat (x - 7):Nat):Int)=x:=tnA
theorem om27:7≤x→x < 55→7+((Int.toNat (x - 7):Nat):Int)=x:=fun h _=>tnA h
theorem om29:7≤x→x < 55→x - 7 < 48:=by lia -abstractProof
theorem om28:7≤x→x < 55→Int.toNat (x - 7) < 48:=fun h k=>(Int.toNat_lt (Int.sub_nonneg_of_le h)).mpr (om29 h k)
theorem om30:7≤x→x < 55→¬256=x:=by lia -abstractProof
theorem om31:7≤x→x < 55→¬257=x:=by lia -abstractProof
theorem om32:7≤x→x < 55→¬258=x:=by lia -abstractProof
theorem om33:7≤x→x < 55→¬259=x:=by lia -abstractProof
theorem om34:7≤x→x≠0:=by intros;exact in_lit ‹_› rfl
theorem om35:x < 5→x≤4:=by lia -abstractProof
theorem om36:x < 0→0≤x→False:=by intros;exact ig_lit ‹_› ‹_› rfl
theorem om37:x < 256→256≤x→False:=by intros;exact ig_lit ‹_› ‹_› rfl
theorem om38:x < 55→256≤x→False:=by intros;exact ig_lit ‹_› ‹_› rfl
theorem om39:x < 55→x < 256:=by intros;exact il_lit ‹_› rfl
theorem om40:x=1→x - 1=0:=by intros;subst_vars;exact rfl
theorem om41:¬256≤x→x < 256:=by intros;exact Int.not_le.mp ‹_›
theorem om42:¬x < 0→5 - 5≤x:=by intros;exact Int.not_lt.mp ‹_›
theorem om43:¬x < 0→x=((Int.toNat x:Nat):Int):=fun h=>(Int.toNat_of_nonneg (Int.not_lt.mp h)).symm
theorem om44:¬x < 256→256≤x:=by intros;exact Int.not_lt.mp ‹_›
theorem om45:¬x=1→¬x - 1=0:=by lia -abstractProof
theorem om46:Int.toNat (y - 256)=Int.toNat (x - 256)→256≤x→x < 260→256≤y→y < 260→x=y:=fun e h _ k _=>(tnA h).symm.trans ((congrArg (fun n:Nat=>(256:Int)+n) e.symm).trans (tnA k))
theorem om47:Int.toNat (y - 7)=Int.toNat (x - 7)→7≤x→x < 55→7≤y→y < 55→x=y:=fun e h _ k _=>(tnA h).symm.trans ((congrArg (fun n:Nat=>(7:Int)+n) e.symm).trans (tnA k))
theorem om48:¬y≤x→x≤y:=by intros;exact Int.le_of_lt (Int.not_le.mp ‹_›)
theorem om49:max x z < y→x < y:=fun h=>Int.lt_of_le_of_lt (Int.le_max_left ..) h
theorem om50:max z x < y→x < y:=fun h=>Int.lt_of_le_of_lt (Int.le_max_right ..) h
theorem om51:x < z→y < z→max x y < z:=fun h k=>Int.max_lt.mpr ⟨h,k⟩
theorem om52:0≤x∧x < 48→a=48→Int.toNat x < a:=fun h e=>e▸(Int.toNat_lt h.1).mpr h.2
theorem om53:1+x < ((a+1:Nat):Int)→x < ((a:Nat):Int):=by lia -abstractProof
theorem om54:x+((a:Nat):Int)+1=x+(((a:Nat):Int)+1):=by lia -abstractProof
theorem om55:x - 1 - ((a:Nat):Int)=x - ((a+1:Nat):Int):=by lia -abstractProof
theorem om56:0≤x→a≤1000→Int.toNat x < a→x < ((a:Nat):Int):=by lia -abstractProof
theorem om57:x - 1=((a:Nat):Int)→x=((a+1:Nat):Int):=by lia -abstractProof
theorem om58:x < ((a+1:Nat):Int)→¬x < ((a:Nat):Int)→x=((a:Nat):Int):=by lia -abstractProof
theorem om59:x < ((a:Nat):Int)→1+x < ((a+1:Nat):Int):=by lia -abstractProof
theorem om60:x=((a+1:Nat):Int)→x - 1=((a:Nat):Int):=by lia -abstractProof
theorem om61:x=(-1) - ((a:Nat):Int)→0≤(-1) - x:=by lia -abstractProof
theorem om62:x=(-1) - ((a:Nat):Int)→Int.toNat ((-1) - x)=a:=fun h=>by rw [h,Int.sub_sub_self];exact Int.toNat_natCast a
theorem om63:x=(-1) - ((a:Nat):Int)→x < 0:=by lia -abstractProof
theorem om64:x=4 - ((a:Nat):Int)→5 - ((a:Nat):Int)≤x→False:=by lia -abstractProof
theorem om65:x=((a:Nat):Int)→x < ((a+1:Nat):Int):=by lia -abstractProof
theorem om66:x=1→a=0→x=((a+1:Nat):Int):=by intros;subst_vars;exact rfl
theorem om67:a=25→0≤x∧x < 25→Int.toNat x < a:=fun e h=>e▸(Int.toNat_lt h.1).mpr h.2
theorem om68:a≤1000→Int.toNat x < a→x < 2^63:=by lia -abstractProof
theorem om69:a≤3→min (Int.toNat x) a≤3:=by intros;exact le_lit (Nat.le_trans (Nat.min_le_right _ _) ‹_›) rfl
theorem om70:0+((a:Nat):Int) * 4+1≤0+((a:Nat):Int) * 4+4:=by lia -abstractProof
theorem om71:(-1) - ((a:Nat):Int) < 0:=by lia -abstractProof
theorem om72:(-1) - ((a:Nat):Int) < 0→Int.toNat ((-1) - ((-1) - ((a:Nat):Int)))=a:=fun _=>om62 rfl
theorem om73:0+((a:Nat):Int) * 1=((a:Nat):Int):=by lia -abstractProof
theorem om74:0 < ((a+1:Nat):Int):=by lia -abstractProof
theorem om75:0≤1+((a:Nat):Int) * 1 - 1:=by lia -abstractProof
theorem om76:0≤1+((a:Nat):Int) * 1:=by intros;exact Int.natCast_nonneg _
theorem om77:0≤((a:Nat):Int):=by intros;exact Int.natCast_nonneg _
theorem om78:0 < a+1:=by intros;exact Nat.succ_pos _
theorem om79:Int.toNat (1+((a:Nat):Int) * 1 - 1)=a:=by rw [Int.mul_one,Int.add_comm,Int.add_sub_cancel];exact Int.toNat_natCast a
theorem om80:Int.toNat ((-1) - ((-1) - ((a:Nat):Int)))=a:=om62 rfl
theorem om81:Int.toNat (1+((a:Nat):Int) * 1)=a+1:=by rw [Int.mul_one,Int.add_comm];exact Int.toNat_natCast (a+1)
theorem om82:min 3 a≤3:=by intros;exact Nat.min_le_left _ _
theorem om83:a+4≤a+5:=by intros;exact Nat.le_succ _
theorem om84:a - 0=a - 0:=by intros;exact rfl
theorem om85:a < 4→a=0∨a=1∨a=2∨a=3:=fun h=>(by decide:∀ a,a < 4→a=0∨a=1∨a=2∨a=3) a h
theorem om86:a < 6→0≤((a:Nat):Int):=by intros;exact Int.natCast_nonneg _
theorem om87:a < 6→a≤6:=by intros;exact lel_lit ‹_› rfl
theorem om88:a < a+1:=by intros;exact Nat.lt_succ_self _
theorem om89:a=0→0 < a→False:=by lia -abstractProof
theorem om90:a=25→24 < a:=by intros;subst_vars;exact Nat.le_refl _
theorem om91:a=25→a≤1000:=by intros;subst_vars;decide
theorem om92:a≤3 * 6→a≤100:=by intros;exact le_lit ‹_› rfl
theorem om93:a≤100→a≤1000:=by intros;exact le_lit ‹_› rfl
theorem om94:a≤1000→((a:Nat):Int) < 2^63:=fun h=>Int.lt_of_le_of_lt (Int.ofNat_le.mpr h) (by decide)
theorem om95:a≤1000→a≤16777216:=by intros;exact le_lit ‹_› rfl
theorem om96:a≤1000→¬a > 16777216:=by lia -abstractProof
theorem om97:a≤16→a≤900:=by intros;exact le_lit ‹_› rfl
theorem om98:a≤18→3 * a≤54:=by lia -abstractProof
theorem om99:a≤2→a≤2:=by intros;assumption
theorem om100:a≤2→a≤3:=by intros;exact le_lit ‹_› rfl
theorem om101:a≤3→1+a≤1000:=by lia -abstractProof
theorem om102:a≤3→a≤1000:=by intros;exact le_lit ‹_› rfl
theorem om103:a≤3→a≤3:=by intros;assumption
theorem om104:a≤3→a≤900:=by intros;exact le_lit ‹_› rfl
theorem om105:a≤3→a≤999:=by intros;exact le_lit ‹_› rfl
theorem om106:a≤4→a * 46≤900:=by lia -abstractProof
theorem om107:a≤4→a≤1000:=by intros;exact le_lit ‹_› rfl
theorem om108:a≤4→a≤900:=by intros;exact le_lit ‹_› rfl
theorem om109:a≤40→0+a≤40:=by lia -abstractProof
theorem om110:a≤40→a≤100:=by intros;exact le_lit ‹_› rfl
theorem om111:a≤40→a≤1000:=by intros;exact le_lit ‹_› rfl
theorem om112:a≤40→a≤50:=by intros;exact le_lit ‹_› rfl
theorem om113:a≤46→a≤1000:=by intros;exact le_lit ‹_› rfl
theorem om114:a≤46→a≤50:=by intros;exact le_lit ‹_› rfl
theorem om115:a≤49→a≤50:=by intros;exact le_lit ‹_› rfl
theorem om116:a≤50→a+1 < 4096:=fun h=>Nat.lt_of_le_of_lt (Nat.succ_le_succ h) (by decide)
theorem om117:a≤50→a≤1000:=by intros;exact le_lit ‹_› rfl
theorem om118:a≤50→a≤999:=by intros;exact le_lit ‹_› rfl
theorem om119:a≤54→0+a≤1000:=by lia -abstractProof
theorem om120:a≤54→a≤900:=by intros;exact le_lit ‹_› rfl
theorem om121:a≤58→a≤998:=by intros;exact le_lit ‹_› rfl
theorem om122:a≤7→1+a≤1000:=by lia -abstractProof
theorem om123:a≤7→a < 64:=by intros;exact lt_lit ‹_› rfl
theorem om124:a≤7→a≤1000:=by intros;exact le_lit ‹_› rfl
theorem om125:a≤7→a≤999:=by intros;exact le_lit ‹_› rfl
theorem om126:a≤900→a≤1000:=by intros;exact le_lit ‹_› rfl
theorem om127:a≤900→a≤999:=by intros;exact le_lit ‹_› rfl
theorem om128:a≤a+1:=by intros;exact Nat.le_succ _
theorem om129:¬((a:Nat):Int)+1=((a:Nat):Int)+2 - 1→False:=by lia -abstractProof
theorem om130:((a+1:Nat):Int)≤x→((a:Nat):Int)≤x - 1:=by lia -abstractProof
theorem om131:((a+1:Nat):Int)≤x→x=1→a=0:=by lia -abstractProof
theorem om132:5 - ((a+1:Nat):Int)≤x→¬x=4 - ((a:Nat):Int)→5 - ((a:Nat):Int)≤x:=by lia -abstractProof
theorem om133:5 - ((a:Nat):Int)≤x→5 - ((a+1:Nat):Int)≤x:=by lia -abstractProof
theorem om134:a < 4→256+(0+((a:Nat):Int) * 1)=x→a≤99:=by intros;exact lel_lit ‹_› rfl
theorem om135:x=4 - ((a:Nat):Int)→5 - ((a+1:Nat):Int)≤x:=by lia -abstractProof
theorem om136:y=4 - ((a:Nat):Int)→y < x→5 - ((a:Nat):Int)≤x:=by lia -abstractProof
theorem om137:x=((b:Nat):Int)→y=((b:Nat):Int)→a≤40→z=x+((a:Nat):Int)→u=y→a≤1000:=by intros;exact le_lit ‹_› rfl
theorem om138:x=((b:Nat):Int)→y=((b:Nat):Int)→a≤40→z=x+((a:Nat):Int)→u=y→((b:Nat):Int)+((c:Nat):Int)=((d:Nat):Int)→((d:Nat):Int)=v→a≤7→a * 40≤900:=by lia -abstractProof
theorem om139:x=((b:Nat):Int)→y=((b:Nat):Int)→a≤40→z=x+((a:Nat):Int)→u=y→((b:Nat):Int)+((c:Nat):Int)=((d:Nat):Int)→((d:Nat):Int)=v→a≤7→a≤1000:=by intros;exact le_lit ‹_› rfl
theorem om140:x=((b:Nat):Int)→y=((b:Nat):Int)→a≤40→z=x+((a:Nat):Int)→u=y→((b:Nat):Int)+((c:Nat):Int)=((d:Nat):Int)→((d:Nat):Int)=v→a≤7→a≤900:=by intros;exact le_lit ‹_› rfl
theorem om141:((a+b:Nat):Int) - ((b:Nat):Int)=((a:Nat):Int):=by lia -abstractProof
theorem om142:((a+b:Nat):Int)=((b:Nat):Int)→a=0:=by lia -abstractProof
theorem om143:a - 0+1+b=a+1+b:=by intros;exact rfl
theorem om144:min a b+(b - a+1)=b+1:=by rcases Nat.le_total a b with h | h;rw [Nat.min_eq_left h,←Nat.add_assoc,Nat.add_sub_of_le h];rw [Nat.min_eq_right h,Nat.sub_eq_zero_of_le h]
theorem om145:a+2+2 * b≤a+2 * (b+1):=by lia -abstractProof
theorem om146:a+3+b≤a+b+3:=by lia -abstractProof
theorem om147:a+b+1=a+1+(b+0):=by intros;exact Nat.add_right_comm ..
theorem om148:a+b+1=a+(b+1):=by intros;exact rfl
theorem om149:((a:Nat):Int)≤((b+a:Nat):Int):=by lia -abstractProof
theorem om150:((a:Nat):Int)≤((b:Nat):Int)→a≤b:=by lia -abstractProof
theorem om151:b+1+2 * a≤100→a≤1000:=fun h=>le_lit (Nat.le_trans (Nat.le_mul_of_pos_left a (by decide:0 < 2)) (Nat.le_trans (Nat.le_add_left ..) h)) rfl
theorem om152:0 < b→a < b→a≤b - 1:=by intros;exact Nat.le_sub_one_of_lt ‹_›
theorem om153:0 < b→a≤b - 1→a < b:=fun h k=>Nat.lt_of_le_sub_one h k
theorem om154:min a b≤a:=by intros;exact Nat.min_le_left _ _
theorem om156:a+8 * (b+1)≤9000→a+3+8 * b≤9000:=by lia -abstractProof
theorem om157:a+8 * b≤9000→a+1+64 < 9900:=fun h=>Nat.lt_of_le_of_lt (Nat.add_le_add_right (Nat.succ_le_succ (Nat.le_trans (Nat.le_add_right ..) h)) 64) (by decide)
theorem om158:a+1=b→a+1+1=b+1:=by intros;subst_vars;exact rfl
theorem om159:a+1≤b→a < b:=by intros;assumption
theorem om160:a+1≤b→a≤b - 1:=by intros;exact Nat.le_sub_one_of_lt ‹_›
theorem om161:a+1≤b→a≤b:=by intros;exact Nat.le_of_lt ‹_›
theorem om162:a+(b+1)=a+1+b:=by intros;exact (Nat.succ_add ..).symm
theorem om163:a+(b+1)=4→a+1+b=4:=by lia -abstractProof
theorem om164:a+(b+1)≤900→a+1+b≤900:=fun h=>Nat.le_trans (Nat.le_of_eq (Nat.add_right_comm a 1 b)) h
theorem om166:a+(b+2)=b+2+a:=by intros;exact Nat.add_comm ..
theorem om167:a+b=a+(b+0):=by intros;exact rfl
theorem om168:a+b≤900→a < 1000:=fun h=>lt_lit (Nat.le_trans (Nat.le_add_right ..) h) rfl
theorem om169:a+b≤a+b:=by intros;exact Nat.le_refl _
theorem om170:b+1=a→a≤b+1:=by intros;subst_vars;exact Nat.le_refl _
theorem om171:b+1≤a→0+1≤a:=by lia -abstractProof
theorem om172:b+a=4→b≤3→a=a - 1+1:=fun h k=>by cases a with | zero=>exact absurd ((show b=4 from h)▸k) (by decide) | succ a=>rfl
theorem om173:b - a=0→a≤b→a=b:=by intros;exact Nat.le_antisymm ‹_› (Nat.le_of_sub_eq_zero ‹_›)
theorem om174:a < 6→b≤3→4+7 * a+1+2 * b≤100:=fun h k=>Nat.le_trans (Nat.add_le_add (Nat.add_le_add_right (Nat.add_le_add_left (Nat.mul_le_mul_left 7 (Nat.le_of_lt h)) 4) 1) (Nat.mul_le_mul_left 2 k)) (by decide)
theorem om175:a < b+1→¬a=b→a < b:=by intros;exact Nat.lt_of_le_of_ne (Nat.le_of_lt_succ ‹_›) ‹_›
theorem om176:a < b→min a b=a:=by intros;exact Nat.min_eq_left (Nat.le_of_lt ‹_›)
theorem om177:a < b→a+1 < b+1:=by intros;exact Nat.succ_lt_succ ‹_›
theorem om178:a < b→a < b+1:=by intros;exact Nat.lt_succ_of_lt ‹_›
theorem om179:a=b+1→0 < a:=by intros;subst_vars;exact Nat.succ_pos _
theorem om180:a=b+1→a - 1=b:=by intros;subst_vars;exact rfl
theorem om181:a=b→a≤b+1:=by intros;subst_vars;exact Nat.le_succ _
theorem om182:a=b→a≤b:=by intros;subst_vars;exact Nat.le_refl _
theorem om183:a=b→b < 6→a≤1000:=by intros;subst_vars;exact lel_lit ‹_› rfl
theorem om184:a=b→b≤3→a≤3:=by intros;subst_vars;assumption
theorem om185:a=b→b≤3→b≤2→a≤2:=by intros;subst_vars;assumption
theorem om186:a=b→b≤49→a≤50:=by intros;subst_vars;exact le_lit ‹_› rfl
theorem om187:a≤b+1+1+1+1→b≤3→a≤7:=by lia -abstractProof
theorem om188:a≤3 * b→a≤3 * (b+1):=by lia -abstractProof
theorem om189:a≤8 * b→a≤8 * b+1:=by intros;exact Nat.le_succ_of_le ‹_›
theorem om190:a≤8 * b→b < 4→a≤1000:=by lia -abstractProof
theorem om191:a≤1000→a+1=b→Int.toNat ((-1)+((a+1:Nat):Int))=a:=by lia -abstractProof
theorem om192:a≤1000→a+1=b→a+1≤16777216:=by intros;exact lt_lit ‹_› rfl
theorem om193:a≤1000→b=a→a≤16777216:=by intros;exact le_lit ‹_› rfl
theorem om194:a≤50→a≤59+b:=by lia -abstractProof
theorem om195:a≤50→a≤999+b:=by lia -abstractProof
theorem om196:a≤b+3 * 6→b=0→4+2 * a≤40:=fun h e=>by subst e;exact Nat.add_le_add_left (Nat.mul_le_mul_left 2 (Nat.zero_add 18▸h)) 4
theorem om197:a≤b+1→a≤b+1:=by intros;assumption
theorem om198:a≤b - 1→0 < b→a+1≤b:=fun h k=>Nat.add_le_of_le_sub k h
theorem om199:a≤b→a+(b - a)=b:=by intros;exact Nat.add_sub_of_le ‹_›
theorem om200:a≤b→a≤b:=by intros;assumption
theorem om201:a≤b→¬a < b→a=b:=by intros;exact Nat.le_antisymm ‹_› (Nat.le_of_not_lt ‹_›)
theorem om202:b < 4→a≤6 * b→a≤18+0:=by lia -abstractProof
theorem om203:b < 64→b=a→a < 64:=by intros;subst_vars;assumption
theorem om204:b < a→a+1 - (b+1) < a+1 - b:=fun h=>by rw [Nat.add_sub_add_right,Nat.succ_sub (Nat.le_of_lt h)];exact Nat.lt_succ_self _
theorem om205:b=a+1→a < b:=by intros;subst_vars;exact Nat.le_refl _
theorem om206:b=a+1→a≠b:=by lia -abstractProof
theorem om207:b=a+1→a≤b:=by intros;subst_vars;exact Nat.le_succ _
theorem om208:b=a→a < 6→Int.toNat (0+((a:Nat):Int) * 4+4) - (4 * a+1)=3:=fun _ h=>(by decide:∀ a,a < 6→Int.toNat (0+((a:Nat):Int) * 4+4) - (4 * a+1)=3) a h
theorem om209:b=a→a < 6→0≤0+((a:Nat):Int) * 4+1:=by intros;exact Int.natCast_nonneg _
theorem om210:b=a→a < 6→0≤0+((a:Nat):Int) * 4:=by intros;exact Int.natCast_nonneg _
theorem om211:b=a→a < 6→Int.toNat (0+((a:Nat):Int) * 4+1)=4 * a+1:=fun _ h=>(by decide:∀ a,a < 6→Int.toNat (0+((a:Nat):Int) * 4+1)=4 * a+1) a h
theorem om212:b=a→a≤3→a < 4096:=by intros;exact lt_lit ‹_› rfl
theorem om213:b=a→a≤3→a≤16777216:=by intros;exact le_lit ‹_› rfl
theorem om214:b=a→a≤3→a≤7:=by intros;exact le_lit ‹_› rfl
theorem om215:b≤7 * 6→a=4→0+(a+b)≤46:=fun h e=>by subst e;rw [Nat.zero_add];exact Nat.add_le_add_left h 4
theorem om216:b≤1000→b+1=a→(-((a:Nat):Int))≤(-1):=by lia -abstractProof
theorem om217:b≤1000→b+1=a→a - 1 < a:=by intros;subst_vars;exact Nat.le_refl _
theorem om218:b≤1000→b=a→((a:Nat):Int) < 2^63:=fun h e=>e▸Int.lt_of_le_of_lt (Int.ofNat_le.mpr h) (by decide)
theorem om219:b≤1000→b=a→a≤16777216:=by intros;subst_vars;exact le_lit ‹_› rfl
theorem om220:b≤3→a < b→a < 3:=by intros;exact Nat.le_trans ‹_› ‹_›
theorem om221:b≤3→a≤b+1+1+1+1→a≤7:=by lia -abstractProof
theorem om222:b≤30→a < b→a < 30:=by intros;exact Nat.le_trans ‹_› ‹_›
theorem om223:b≤4→a < b→min a b≤1000:=by intros;exact le_lit (Nat.le_trans (Nat.min_le_right _ _) ‹_›) rfl
theorem om224:b≤60→b=a→a+1 < 4096:=fun h e=>e▸Nat.lt_of_le_of_lt (Nat.succ_le_succ h) (by decide)
theorem om225:b≤900→b=a→a≤1000:=by intros;subst_vars;exact le_lit ‹_› rfl
theorem om226:¬b < a→a≤b:=by intros;exact Nat.le_of_not_lt ‹_›
theorem om227:a < 4→256+(0+((a:Nat):Int) * 1)=x→min a b≤1000:=by intros;exact le_lit (Nat.le_trans (Nat.min_le_left _ _) (Nat.le_of_lt ‹_›)) rfl
theorem om228:a+1+2 * b+c≤a+(1+2 * b+c):=by lia -abstractProof
theorem om229:b+1+2 * c≤100→a≤b→a≤100:=by lia -abstractProof
theorem om230:b+1+2 * c≤100→c=a→a≤1000:=by lia -abstractProof
theorem om231:a+8 * (c+1)≤9000→b≤8→a+b+8 * c≤9000:=by lia -abstractProof
theorem om232:a+1≤b - c+1+a:=by lia -abstractProof
theorem om233:a - b=c+1→b < a→a - (b+1)=c:=fun h _=>by rw [Nat.sub_add_eq,h];rfl
theorem om234:b+1≤c→a≤7 * b→a≤7 * (b+1):=by lia -abstractProof
theorem om235:b - a=c+1→a≤b→a < b:=fun h _=>Nat.sub_pos_iff_lt.mp (h▸Nat.succ_pos _)
theorem om236:c+1≤b→a+1≤c→a+1+1≤b:=by intros;exact Nat.lt_of_le_of_lt ‹_› ‹_›
theorem om237:a < b→b < c→c < 8→a < 8:=by intros;exact ltl_lit (Nat.lt_trans ‹_› (Nat.lt_trans ‹_› ‹_›)) rfl
theorem om239:a=b→0≤((c:Nat):Int)→a≤b+c:=by lia -abstractProof
theorem om240:a=c→b=c→a=b:=by intros;subst_vars;exact rfl
theorem om241:a≤b+1+c→a≤b+(c+1):=fun h=>Nat.le_trans h (Nat.le_of_eq (Nat.add_right_comm b 1 c))
theorem om242:a≤60→a=b+2→c=a→((b:Nat):Int)+2 < 2→False:=by lia -abstractProof
theorem om243:a≤60→a=b+2→c=a→a≤1000:=by intros;exact le_lit ‹_› rfl
theorem om244:a≤b+c→a≤b+(c+1):=by intros;exact Nat.le_succ_of_le ‹_›
theorem om245:a≤c→a+1≤1+2 * b+c:=by lia -abstractProof
theorem om246:b < a→a - (b+1)+1+c+1=a - b+1+c:=fun h=>by rw [Nat.sub_add_eq,Nat.sub_add_cancel (Nat.sub_pos_of_lt h)];exact Nat.add_right_comm ..
theorem om247:b < a→a < c→c < 8→a < 8:=by intros;exact Nat.lt_trans ‹_› ‹_›
theorem om248:b < c→a+1+2 * (min b c)≤a+1+2 * b:=fun h=>Nat.add_le_add_left (Nat.mul_le_mul_left 2 (Nat.min_le_left ..)) _
theorem om249:b=25→c=a→a < 6→((a:Nat):Int) * 4+4≤((b:Nat):Int):=by lia -abstractProof
theorem om250:b=25→c=a→a < 6→Int.toNat (0+((a:Nat):Int) * 4) < b:=fun h _ k=>h▸(by decide:∀ a,a < 6→Int.toNat (0+((a:Nat):Int) * 4) < 25) a k
theorem om251:b=c→((a:Nat):Int)≤((c:Nat):Int)→a≤b:=by lia -abstractProof
theorem om252:b=c→a+1≤c→a < b:=by intros;subst_vars;assumption
theorem om253:b=c→a < c→a < b:=by intros;subst_vars;assumption
theorem om254:b=c→c≤3→a=c→a≤3:=by intros;subst_vars;assumption
theorem om255:b≤3 * c→a≤3→a+b≤3 * (c+1):=fun h k=>Nat.add_comm b a▸Nat.add_le_add h k
theorem om256:b≤7 * c→a=4→0+(a+b)≤4+7 * c:=fun h e=>by subst e;rw [Nat.zero_add];exact Nat.add_le_add_left h 4
theorem om257:b≤1000→b=c→a < b→((a:Nat):Int) < 2^63 - 1:=by lia -abstractProof
theorem om258:b≤1000→c < b→a≤min c b→a≤1000:=by intros;exact le_lit (Nat.le_trans ‹_› (Nat.le_trans (Nat.min_le_right _ _) ‹_›)) rfl
theorem om259:b≤3→a≤c+1→a+b≤c+4:=fun h k=>(Nat.add_le_add k h:a+b≤c+1+3)
theorem om260:b≤46→a≤min c b→a≤1000:=by intros;exact le_lit (Nat.le_trans ‹_› (Nat.le_trans (Nat.min_le_right _ _) ‹_›)) rfl
theorem om261:b≤6→a≤18+c→c < b→a≤1000:=fun p q r=>Nat.le_trans q (Nat.le_trans (Nat.add_le_add_left (Nat.le_trans (Nat.le_of_lt r) p) 18) (by decide))
theorem om262:b≤60→b=a+2→c=b→a+1≤60:=by intros;subst_vars;exact lel_lit ‹_› rfl
theorem om263:b≤60→b=a+2→c=b→a≤999:=by lia -abstractProof
theorem om264:b≤800→a+8 * c≤9000→a+b < 9900:=fun h k=>Nat.lt_of_le_of_lt (Nat.add_le_add (Nat.le_trans (Nat.le_add_right ..) k) h) (by decide)
theorem om265:b≤c→a+8 * c≤9000→a+8 * b≤9000:=by lia -abstractProof
theorem om266:b≤c→a+c≤900→a+b≤900:=by lia -abstractProof
theorem om267:c < 6→b≤3→a≤5 * c→a+(b+1)≤1000:=fun p q r=>Nat.le_trans (Nat.add_le_add (Nat.le_trans r (Nat.mul_le_mul_left 5 (Nat.le_of_lt p))) (Nat.succ_le_succ q)) (by decide)
theorem om268:c < b→a < c→a < b:=by intros;exact Nat.lt_trans ‹_› ‹_›
theorem om269:c=a→¬b < c→a≤b:=by intros;subst_vars;exact Nat.le_of_not_lt ‹_›
theorem om270:c=b→a < c→a < b:=by intros;subst_vars;assumption
theorem om271:c=b→a=c+1→a=b+1:=by intros;subst_vars;exact rfl
theorem om273:c≤18+b→a≤c+1→a≤18+(b+1):=fun h k=>Nat.le_trans k (Nat.succ_le_succ h)
theorem om274:c≤8 * b→a≤c+1→a≤8 * b+1:=fun h k=>Nat.le_trans k (Nat.succ_le_succ h)
theorem om275:c≤100→a+(1+2 * b)≤c→a+1+2 * b≤100:=fun h k=>by rw [Nat.add_assoc];exact Nat.le_trans k h
theorem om276:c≤b→a < c→a < b:=by intros;exact Nat.le_trans ‹_› ‹_›
theorem om277:c≤b→a≤3 * c→a≤3 * b:=by lia -abstractProof
theorem om278:c≤b→c=a→a≤b:=by intros;subst_vars;assumption
theorem om279:a≤60→a=b+2→c=a→x=((b+1:Nat):Int)→a≤1000:=by intros;exact le_lit ‹_› rfl
theorem om280:b≤60→b=a+2→c=b→x=((a+1:Nat):Int)→a+1≤1000:=by intros;subst_vars;exact lel_lit ‹_› rfl
theorem om281:x=((a:Nat):Int)→y=((a:Nat):Int)→c≤40→a≤40→z=x+((c:Nat):Int)→u=y→((a:Nat):Int)+((d:Nat):Int)=((e:Nat):Int)→((e:Nat):Int)=v→a+min b c≤1000:=fun _ _ k h _ _ _ _=>Nat.le_trans (Nat.add_le_add h (Nat.le_trans (Nat.min_le_right ..) k)) (by decide)
theorem om282:1+2 * a+(1+2 * b+(1+2 * c+(1+2 * d)))=4+2 * (a+b+c+d):=by lia -abstractProof
theorem om283:b+1+2 * c≤100→d < c→a≤b+1+2 * d+1→a≤1000:=fun p q r=>Nat.le_trans r (Nat.le_trans (Nat.succ_le_succ (Nat.add_le_add_left (Nat.mul_le_mul_left 2 (Nat.le_of_lt q)) _)) (le_lit (Nat.succ_le_succ p) rfl))
theorem om284:b+1+2 * c≤100→d < c→a≤b+1+2 * d→a≤100:=fun p q r=>Nat.le_trans r (Nat.le_trans (Nat.add_le_add_left (Nat.mul_le_mul_left 2 (Nat.le_of_lt q)) _) p)
theorem om285:a+d≤900→b+1 * c≤d→a+b+c≤900:=fun h k=>by rw [Nat.add_assoc];exact Nat.le_trans (Nat.add_le_add_left (Nat.one_mul c▸k) a) h
theorem om286:b+(1+2 * c)≤d→1+2 * a+b+(1+2 * c)≤1+2 * a+d:=fun h=>by rw [Nat.add_assoc];exact Nat.add_le_add_left h _
theorem om287:b+(c+2)=d→a+2+b+(c+2)=a+2+d:=fun h=>by rw [Nat.add_assoc,h]
theorem om288:c+1≤d→a≤7 * c→b≤3→a+(1+2 * b)≤7 * (c+1):=fun _ q r=>Nat.add_le_add q (Nat.le_trans (Nat.add_le_add_left (Nat.mul_le_mul_left 2 r) 1) (by decide))
theorem om290:c+d≤1000→c=a→d=b→a+b≤16777216:=by intros;subst_vars;exact le_lit ‹_› rfl
theorem om291:a≤d+c→d≤b+1→a≤b+(c+1):=fun h k=>Nat.le_trans h (Nat.le_trans (Nat.add_le_add_right k c) (Nat.le_of_eq (Nat.add_right_comm b 1 c)))
theorem om292:b=a→a≤3→a≤2→c=b+1→d=a+1→a+1≤16777216:=by intros;exact lt_lit ‹_› rfl
theorem om293:b=a→a≤3→a≤2→c=b+1→d=a+1→a+1≤3:=by intros;exact lt_lit ‹_› rfl
theorem om294:b=c→c≤3→c≤2→a=b+1→d=c+1→a * 5 < 21:=fun e _ h f _=>by subst f;subst e;exact Nat.lt_of_le_of_lt (Nat.mul_le_mul_right 5 (Nat.succ_le_succ h)) (by decide)
theorem om295:b=c→c≤3→d=c→a=d→a < 64:=by intros;subst_vars;exact lt_lit ‹_› rfl
theorem om296:b=c→d < b→a < d→a < b:=by intros;exact Nat.lt_trans ‹_› ‹_›
theorem om297:b≤0+4→c≤b+4→d≤c+4→a≤d+4→a≤16:=fun p q r s=>Nat.le_trans s (Nat.add_le_add_right (Nat.le_trans r (Nat.add_le_add_right (Nat.le_trans q (Nat.add_le_add_right p 4)) 4)) 4)
theorem om298:b≤30→c < 30→a≤min c b∧d≤min c b→a≤1000:=fun h _ k=>Nat.le_trans k.1 (Nat.le_trans (Nat.min_le_right ..) (le_lit h rfl))
theorem om299:b≤46→a≤c+min d b→c≤4→a≤1000:=fun h e k=>Nat.le_trans e (Nat.le_trans (Nat.add_le_add k (Nat.le_trans (Nat.min_le_right ..) h)) (by decide))
theorem om300:b≤900→c=d→c≤b+1→a=c→a≤1000:=fun h _ k e=>e▸le_lit (Nat.le_trans k (Nat.succ_le_succ h)) rfl
theorem om301:b≤d→a+b+c≤a+(d+c):=by lia -abstractProof
theorem om302:c≤6 * b→d≤6→a≤c+d→a≤6 * (b+1):=fun p q r=>Nat.le_trans r (Nat.add_le_add p q)
theorem om304:d < 6→c≤3→a≤5 * d→b < c+1→a+min b (c+1)≤1000:=fun h k e _=>Nat.le_trans (Nat.add_le_add (Nat.le_trans e (Nat.mul_le_mul_left 5 (Nat.le_of_lt h))) (Nat.le_trans (Nat.min_le_right ..) (Nat.succ_le_succ k))) (by decide)
theorem om305:d < 6→c≤3→b < 3→a≤3 * d→a+min b c≤1000:=fun h k _ e=>Nat.le_trans (Nat.add_le_add (Nat.le_trans e (Nat.mul_le_mul_left 3 (Nat.le_of_lt h))) (Nat.le_trans (Nat.min_le_right ..) k)) (by decide)
theorem om306:d≤8 * b+1+c→a≤d+1→a≤8 * b+1+(c+1):=fun h k=>Nat.le_trans k (Nat.succ_le_succ h)
theorem om307:b=c+2→d=b→x=((c+1:Nat):Int)→a < c+1→a+1 < b:=by lia -abstractProof
theorem om308:b=c+2→d=b→x=((c+1:Nat):Int)→a < c+1→a < b:=by lia -abstractProof
theorem om309:b≤30→c < 30→d≤min c b∧a≤min c b→x≠0→a≤1000:=fun h _ k _=>Nat.le_trans k.2 (Nat.le_trans (Nat.min_le_right ..) (le_lit h rfl))
theorem om310:a+b+c+d+e≤a+c+d+e+b:=by lia -abstractProof
theorem om311:a+(b+c)+d+e≤a+b+d+e+c:=by lia -abstractProof
theorem om312:a+b+(c+d)+e≤a+b+c+e+d:=by lia -abstractProof
theorem om313:a+b+c+(d+e)≤a+b+c+d+e:=by lia -abstractProof
theorem om314:a+b+c+d≤a+b+c+d+e:=by intros;exact Nat.le_add_right _ _
theorem om315:d+1≤c→b≤5 * (c - 1)→e≤3→a=e+2→a+b≤5 * c:=fun h k l m=>by cases c with | zero=>exact absurd h (Nat.not_succ_le_zero _) | succ c=>subst m;exact Nat.add_comm (e+2) b▸Nat.add_le_add k (Nat.add_le_add_right l 2)
theorem om316:a≤60→a=b+2→c=a→d=e→d=b+1→a≤1000:=by intros;exact le_lit ‹_› rfl
theorem om318:b≤60→b=c+2→d=b→a=e→a=c+1→a≤1000:=by intros;subst_vars;exact lel_lit ‹_› rfl
theorem om319:c=a→d=c+1→e=a+1→a+1=min b a+(a - b+1):=fun _ _ _=>om144.symm
theorem om320:c=b→b≤3→b≤2→d=c+1→e=b+1→min a b+(b - a+1)≤3:=fun _ _ h _ _=>by rw [om144];exact Nat.succ_le_succ h
theorem om321:d=e+c→a+(b+2)=e→a+(b+1+c)≤d:=by lia -abstractProof
theorem om322:d≤18→c≤3→a≤3 * (min e d)→a+min b c≤1000:=fun h k e=>Nat.le_trans (Nat.add_le_add (Nat.le_trans e (Nat.mul_le_mul_left 3 (Nat.le_trans (Nat.min_le_right ..) h))) (Nat.le_trans (Nat.min_le_right ..) k)) (by decide)
theorem om324:d+e=c→a+f=c→b+1=f→a+1+b=c:=by lia -abstractProof
theorem om325:a≤d+3 * c→d≤b+e→e≤f→f≤3→a≤b+3 * (c+1):=by lia -abstractProof
theorem om326:b≤50→c+d=b→a+e=b→f+1=e→a≤50:=by lia -abstractProof
theorem om327:b≤50→c+d=b→e+f=b→a+f≤b→a≤50:=by lia -abstractProof
theorem om328:e≤b+c→f≤d→a≤e+f→a≤b+(c+1 * d):=fun p q r=>Nat.le_trans r (Nat.le_trans (Nat.add_le_add p q) (Nat.le_of_eq (by rw [Nat.one_mul,Nat.add_assoc])))
theorem om329:a≤f+c∧d≤g+c→f≤b+1∧g≤e+1→a≤b+(c+1)∧d≤e+(c+1):=fun h k=>⟨om291 h.1 k.1,om291 h.2 k.2⟩
theorem om330:d+e=c→f+g=c→b+1=g→a+g≤c→a+1+b≤c:=by lia -abstractProof
theorem om331:b≤c+d→e≤f→c+d+f≤900→g < e→a≤b+min g e→a≤1000:=fun h k l _ e=>Nat.le_trans e (Nat.le_trans (Nat.add_le_add h (Nat.le_trans (Nat.min_le_right ..) k)) (le_lit l rfl))
theorem om332:c=d+e→a+f≤c→g=f→b+1=f→a+b < c:=by intros;subst_vars;assumption
theorem om333:c=d+e→a+f≤c→g=f→b+1≤f→a+b≤c:=by lia -abstractProof
theorem om334:d+e=c→f+g=c→i+b=c→a+1+b≤c→a+b≤c:=by lia -abstractProof
theorem om335:b≤50→c+d=b→e+f=b→g+1=f→a=i→i+f≤b→a≤50:=by lia -abstractProof
theorem om336:b≤50→c+d=b→e+f=b→g+i=b→a+i≤b→a≤50:=by lia -abstractProof
end
end Mine
end
section
namespace Mine
inductive SV where
 | d (x:PyData)
 | ref (a:Addr)
 | lit (v:Value)
 | o (ob:Obj)
set_option genInjectivity false in
structure Cfg where
 prog:Program
 w:World
 K:Frag
 h₀:Heap
 kin:K.In h₀
 p:Program
 loose:List Str
 mg:Str→Option Value
 mb:Str→Option Value
 top:TopRead p loose mg mb h₀
noncomputable abbrev FM:=Addr→Option Obj
noncomputable abbrev listObj (vs:List Value) (n:Nat):Obj:={ cls:=.type "list",data:=.seq vs.toArray n }
noncomputable abbrev tupObj (vs:List Value) (n:Nat):Obj:={ cls:=.type "tuple",data:=.seq vs.toArray n }
mutual
noncomputable def RD (F:FM):PyData→Value→Prop
 | .none,v=>v=.none
 | .bool b,v=>v=.bool b
 | .int i,v=>∃ t,v=.int i t
 | .str x,v=>∃ t,v=.str x t
 | .list xs,v=>∃ a vs n,v=.ref a∧F a=some (listObj vs n)∧RDs F xs vs
 | .tuple xs,v=>∃ a vs n,v=.ref a∧F a=some (tupObj vs n)∧RDs F xs vs
 | .dict _,_=>False
noncomputable def RDs (F:FM):List PyData→List Value→Prop
 | [],vs=>vs=[]
 | x :: xs,vs=>∃ v r,vs=v :: r∧RD F x v∧RDs F xs r
end
noncomputable def VRel (F:FM):SV→Value→Prop
 | .d x,v=>RD F x v
 | .ref a,v=>v=.ref a
 | .lit u,v=>v=u
 | .o ob,v=>∃ a,v=.ref a∧F a=some ob
noncomputable def FLe (F F':FM):Prop:=∀ a o,F a=some o→F' a=some o
theorem FLe.refl (F:FM):FLe F F:=fun _ _ e=>e
theorem FLe.trans {F F' F'':FM} (x:FLe F F') (y:FLe F' F''):FLe F F'':=fun a o e=>y a o (x a o e)
mutual
theorem RD.mono {F F':FM} (l:FLe F F'):∀ {x:PyData} {v:Value},RD F x v→RD F' x v
 | .none,_,h=>by simpa only [RD] using h
 | .bool _,_,h=>by simpa only [RD] using h
 | .int _,_,h=>by simpa only [RD] using h
 | .str _,_,h=>by simpa only [RD] using h
 | .list _,_,h=>by
  simp only [RD] at h ⊢
  obtain ⟨a,vs,n,e,f,r⟩:=h
  exact ⟨a,vs,n,e,l _ _ f,RDs.mono l r⟩
 | .tuple _,_,h=>by
  simp only [RD] at h ⊢
  obtain ⟨a,vs,n,e,f,r⟩:=h
  exact ⟨a,vs,n,e,l _ _ f,RDs.mono l r⟩
 | .dict _,_,h=>by simp only [RD] at h
theorem RDs.mono {F F':FM} (l:FLe F F'):∀ {xs:List PyData} {vs:List Value},RDs F xs vs→RDs F' xs vs
 | [],_,h=>by simpa only [RDs] using h
 | _ :: _,_,h=>by
  simp only [RDs] at h ⊢
  obtain ⟨v,r,e,a,b⟩:=h
  exact ⟨v,r,e,RD.mono l a,RDs.mono l b⟩
end
theorem VRel.mono {F F':FM} (l:FLe F F') {x:SV} {v:Value} (h:VRel F x v):VRel F' x v:=by
 cases x with
 | d x=>exact RD.mono l h
 | ref a=>exact h
 | lit u=>exact h
 | o ob=>obtain ⟨a,e,f⟩:=h;exact ⟨a,e,l _ _ f⟩
theorem paired_mono {α β:Type} {P P':α→β→Prop} (h:∀ a b,P a b→P' a b) {xs:List α} {ys:List β} (p:Paired P xs ys):Paired P' xs ys:=by
 induction p with
 | nil=>exact .nil
 | cons a _ ih=>exact .cons (h _ _ a) ih
theorem paired_get {α β:Type} {P:α→β→Prop} {xs:List α} {ys:List β} (p:Paired P xs ys):∀ {i:Nat} {x:α},xs[i]?=some x→∃ y,ys[i]?=some y∧P x y:=by
 induction p with
 | nil=>exact fun e=>(nomatch e)
 | cons a _ ih =>
  intro i x e
  cases i with
  | zero=>exact ⟨_,rfl,Option.some.inj e▸a⟩
  | succ i=>exact ih e
theorem paired_get' {α β:Type} {P:α→β→Prop} {xs:List α} {ys:List β} (p:Paired P xs ys):∀ {i:Nat} {y:β},ys[i]?=some y→∃ x,xs[i]?=some x∧P x y:=by
 induction p with
 | nil=>exact fun e=>(nomatch e)
 | cons a _ ih =>
  intro i x e
  cases i with
  | zero=>exact ⟨_,rfl,Option.some.inj e▸a⟩
  | succ i=>exact ih e
theorem paired_append {α β:Type} {P:α→β→Prop} {xs:List α} {ys:List β} {xs':List α} {ys':List β} (p:Paired P xs ys) (q:Paired P xs' ys'):Paired P (xs++xs') (ys++ys'):=by
 induction p with
 | nil=>exact q
 | cons a _ ih=>exact .cons a ih
theorem paired_drop {α β:Type} {P:α→β→Prop} {xs:List α} {ys:List β} (n:Nat) (p:Paired P xs ys):Paired P (xs.drop n) (ys.drop n):=by
 induction p generalizing n with
 | nil=>cases n <;> exact .nil
 | cons a r ih=>cases n with
  | zero=>exact .cons a r
  | succ n=>exact ih n
theorem paired_take {α β:Type} {P:α→β→Prop} {xs:List α} {ys:List β} (n:Nat) (p:Paired P xs ys):Paired P (xs.take n) (ys.take n):=by
 induction p generalizing n with
 | nil=>cases n <;> exact .nil
 | cons a r ih=>cases n with
  | zero=>exact .nil
  | succ n=>exact .cons a (ih n)
theorem paired_set {α β:Type} {P:α→β→Prop} {x:α} {y:β} (hp:P x y) {xs:List α} {ys:List β} (n:Nat) (p:Paired P xs ys):Paired P (xs.set n x) (ys.set n y):=by
 induction p generalizing n with
 | nil=>exact .nil
 | cons a r ih=>cases n with
  | zero=>exact .cons hp r
  | succ n=>exact .cons a (ih n)
theorem rds_paired {F:FM}:∀ {xs:List PyData} {vs:List Value},RDs F xs vs→Paired (VRel F) (xs.map SV.d) vs
 | [],_,h=>by simp only [RDs] at h;subst h;exact .nil
 | x :: xs,_,h=>by
  simp only [RDs] at h
  obtain ⟨v,r,rfl,a,b⟩:=h
  exact .cons a (rds_paired b)
theorem rds_of_paired {F:FM}:∀ {xs:List PyData} {vs:List Value},Paired (VRel F) (xs.map SV.d) vs→RDs F xs vs
 | [],_,h=>by cases h;simp only [RDs]
 | x :: xs,_,h=>by
  cases h with
  | cons a r=>simp only [RDs];exact ⟨_,_,rfl,a,rds_of_paired r⟩
inductive SObj where
 | list (xs:List SV)
 | dictI (kvs:List (Int×SV))
 | dictS (kvs:List (Str×SV))
 | setI (S:Int→Bool) (n:Nat)
 | ns (m:Str→Option SV)
 | cell (v:Option SV)
 | obj (o:Obj)
 | attrs (l:List (Str×SV))
 | slots (C dx:Addr) (vs:List (Option SV))
 | liter (l:Addr) (i:Nat)
 | ilist (xs:List SV)
 | tup (xs:List SV)
 | ro (o:SObj)
noncomputable def SObj.isRo:SObj→Bool
 | .ro _=>true
 | _=>false
noncomputable abbrev Sig:=Addr→Option SObj
noncomputable def KV {K:Type} (F:FM) (p:K×SV) (q:K×Value):Prop:=p.1=q.1∧VRel F p.2 q.2
noncomputable def OV (F:FM):Option SV→Option Value→Prop
 | some x,some v=>VRel F x v
 | none,none=>True
 | _,_=>False
inductive AV (c:Cfg) (F:FM) (p:Str×SV) (e:DictEntry):Prop
 | mk (t:Tok) (hk:e.key=.str p.1 t) (hh:e.hash=hashStr c.w p.1) (r:VRel F p.2 e.val):AV c F p e
noncomputable def Quiet:Option SObj→Prop
 | none=>True
 | some o=>o.isRo=true
theorem quiet_none {o:Option SObj} (h:o=none):Quiet o:=h▸trivial
theorem not_quiet {o:SObj} (h:o.isRo=false):¬Quiet (some o):=fun q=>by rw [Quiet,h] at q;cases q
noncomputable def Holds (c:Cfg) (F:FM) (a:Addr):SObj→Heap→Prop
 | .list xs,h=>∃ vs n,h.get? a=some (listObj vs n)∧Paired (VRel F) xs vs
 | .dictI kvs,h=>(a == sysModules)=false∧∃ kvs',h.DictOf (intKind c.prog c.w) a kvs'∧Paired (KV F) kvs kvs'
 | .dictS kvs,h=>(a == sysModules)=false∧∃ kvs',h.DictOf (strKind c.prog c.w) a kvs'∧Paired (KV F) kvs kvs'
 | .setI S n,h=>h.SetOf (intKind c.prog c.w) a S n
 | .ns m,h=>∃ m',h.Ns a m'∧∀ x v,m x=some v→∃ v',m' x=some v'∧VRel F v v'
 | .cell v,h=>∃ v',h.IsCell a v'∧∀ x,v=some x→∃ u,v'=some u∧VRel F x u
 | .obj o,h=>h.get? a=some o
 | .attrs l,h=>∃ es n,h.get? a=some ⟨.type "dict",none,.dict es n,#[]⟩∧Paired (AV c F) l es.toList
 | .slots C dx vs,h=>∃ vs',h.get? a=some ⟨.ref C,some dx,.plain,vs'⟩∧Paired (OV F) vs vs'.toList
 | .liter l i,h=>h.IsListIter a l i
 | .ilist xs,h=>∃ vs,h.IsList a vs.toArray∧Paired (VRel F) xs vs
 | .tup xs,h=>∃ vs n,h.get? a=some (tupObj vs n)∧Paired (VRel F) xs vs
 | .ro o,h=>Holds c F a o h
theorem OV.mono {F F':FM} (l:FLe F F') {x:Option SV} {v:Option Value} (h:OV F x v):OV F' x v:=by
 cases x <;> cases v <;> first | exact h | exact VRel.mono l h
theorem Holds.mono {c:Cfg} {F F':FM} (l:FLe F F') {a:Addr} {o:SObj} {h:Heap} (H:Holds c F a o h):Holds c F' a o h:=by
 induction o with
 | list xs=>obtain ⟨vs,n,g,p⟩:=H;exact ⟨vs,n,g,paired_mono (fun _ _=>VRel.mono l) p⟩
 | dictI kvs=>obtain ⟨nm,k,d,p⟩:=H;exact ⟨nm,k,d,paired_mono (fun _ _ q=>⟨q.1,VRel.mono l q.2⟩) p⟩
 | dictS kvs=>obtain ⟨nm,k,d,p⟩:=H;exact ⟨nm,k,d,paired_mono (fun _ _ q=>⟨q.1,VRel.mono l q.2⟩) p⟩
 | setI S n=>exact H
 | ns m=>obtain ⟨m',g,p⟩:=H;exact ⟨m',g,fun x v e=>let ⟨v',a,b⟩:=p x v e;⟨v',a,VRel.mono l b⟩⟩
 | cell v=>obtain ⟨v',g,p⟩:=H;exact ⟨v',g,fun x e=>let ⟨u,a,b⟩:=p x e;⟨u,a,VRel.mono l b⟩⟩
 | obj o=>exact H
 | attrs q=>obtain ⟨es,n,g,p⟩:=H;exact ⟨es,n,g,paired_mono (fun _ _ ⟨t,a,b,r⟩=>⟨t,a,b,VRel.mono l r⟩) p⟩
 | slots C dx vs=>obtain ⟨vs',g,p⟩:=H;exact ⟨vs',g,paired_mono (fun _ _=>OV.mono l) p⟩
 | liter x i=>exact H
 | ilist xs=>obtain ⟨vs,g,p⟩:=H;exact ⟨vs,g,paired_mono (fun _ _=>VRel.mono l) p⟩
 | tup xs=>obtain ⟨vs,n,g,p⟩:=H;exact ⟨vs,n,g,paired_mono (fun _ _=>VRel.mono l) p⟩
 | ro o ih=>exact ih H
theorem Holds.loc {c:Cfg} {F:FM} {a:Addr} {o:SObj} {h:Heap} (H:Holds c F a o h):∃ ob,h.get? a=some ob∧∀ h':Heap,h'.get? a=some ob→Holds c F a o h':=by
 induction o with
 | list xs=>obtain ⟨vs,n,g,p⟩:=H;exact ⟨_,g,fun h' e=>⟨vs,n,e,p⟩⟩
 | dictI kvs=>obtain ⟨nm,k,⟨o,es,ep,g,r⟩,p⟩:=H;exact ⟨_,g,fun h' e=>⟨nm,k,⟨o,es,ep,e,r⟩,p⟩⟩
 | dictS kvs=>obtain ⟨nm,k,⟨o,es,ep,g,r⟩,p⟩:=H;exact ⟨_,g,fun h' e=>⟨nm,k,⟨o,es,ep,e,r⟩,p⟩⟩
 | setI S n=>obtain ⟨o,es,ep,t,g,r⟩:=H;exact ⟨_,g,fun h' e=>⟨o,es,ep,t,e,r⟩⟩
 | ns m=>obtain ⟨m',⟨o,es,ep,g,r⟩,p⟩:=H;exact ⟨_,g,fun h' e=>⟨m',⟨o,es,ep,e,r⟩,p⟩⟩
 | cell v=>obtain ⟨v',⟨o,g,r⟩,p⟩:=H;exact ⟨_,g,fun h' e=>⟨v',⟨o,e,r⟩,p⟩⟩
 | obj o=>exact ⟨_,H,fun h' e=>e⟩
 | attrs q=>obtain ⟨es,n,g,p⟩:=H;exact ⟨_,g,fun h' e=>⟨es,n,e,p⟩⟩
 | slots C dx vs=>obtain ⟨vs',g,p⟩:=H;exact ⟨_,g,fun h' e=>⟨vs',e,p⟩⟩
 | liter x i=>obtain ⟨o,g,r⟩:=H;exact ⟨_,g,fun h' e=>⟨o,e,r⟩⟩
 | ilist xs=>obtain ⟨vs,⟨o,g,r⟩,p⟩:=H;exact ⟨_,g,fun h' e=>⟨vs,⟨o,e,r⟩,p⟩⟩
 | tup xs=>obtain ⟨vs,n,g,p⟩:=H;exact ⟨_,g,fun h' e=>⟨vs,n,e,p⟩⟩
 | ro o ih=>obtain ⟨ob,g,f⟩:=ih H;exact ⟨ob,g,f⟩
theorem Holds.at {c:Cfg} {F:FM} {a:Addr} {o:SObj} {h h':Heap} (H:Holds c F a o h) (k:∀ ob,h.get? a=some ob→h'.get? a=some ob):Holds c F a o h':=by
 obtain ⟨ob,g,f⟩:=H.loc;exact f h' (k ob g)
theorem Holds.alive {c:Cfg} {F:FM} {a:Addr} {o:SObj} {h:Heap} (H:Holds c F a o h):∃ ob,h.get? a=some ob:=let ⟨ob,g,_⟩:=H.loc;⟨ob,g⟩
structure St (c:Cfg) (F:FM) (σ:Sig) (s:Shared):Prop where
 base:FLe c.h₀.get? F
 fz:∀ a o,F a=some o→s.heap.get? a=some o
 tr:∀ a o,σ a=some o→F a=none∧Holds c F a o s.heap
structure Ext (F:FM) (σ:Sig) (s:Shared) (F':FM) (σ':Sig) (s':Shared):Prop where
 fle:FLe F F'
 keep:∀ a o,Quiet (σ a)→s.heap.get? a=some o→s'.heap.get? a=some o
 alive:∀ a o,s.heap.get? a=some o→∃ o',s'.heap.get? a=some o'
 prov:∀ a o,s.heap.get? a=some o→Quiet (σ a)→σ' a=σ a∧F' a=F a
 rest:s'={ s with heap:=s'.heap,toks:=s'.toks }
theorem Ext.refl (F:FM) (σ:Sig) (s:Shared):Ext F σ s F σ s:=⟨.refl F,fun _ _ _ e=>e,fun _ o e=>⟨o,e⟩,fun _ _ _ _=>⟨rfl,rfl⟩,rfl⟩
theorem Ext.trans {F F' F'':FM} {σ σ' σ'':Sig} {s s' s'':Shared} (x:Ext F σ s F' σ' s') (y:Ext F' σ' s' F'' σ'' s''):Ext F σ s F'' σ'' s'' where
 fle:=x.fle.trans y.fle
 keep:=fun a o n e=>y.keep a o ((x.prov a o e n).1▸n) (x.keep a o n e)
 alive:=fun a o e=>let ⟨_,e'⟩:=x.alive a o e;y.alive a _ e'
 prov:=fun a o e n=>by
  have p:=x.prov a o e n
  have q:=y.prov a o (x.keep a o n e) (p.1▸n)
  exact ⟨q.1.trans p.1,q.2.trans p.2⟩
 rest:=by rw [y.rest,x.rest]
inductive Post {α β:Type} (c:Cfg) (Rv:FM→β→α→Prop) (F:FM) (σ:Sig) (s:Shared) (Q:β→Sig→Prop) (a:α) (s':Shared):Prop
 | mk (F':FM) (σ':Sig) (x:β) (r:Rv F' x a) (H:St c F' σ' s') (X:Ext F σ s F' σ' s') (q:Q x σ'):Post c Rv F σ s Q a s'
theorem Post.lift {α β:Type} {c:Cfg} {Rv:FM→β→α→Prop} {F F1:FM} {σ σ1:Sig} {s s1 s2:Shared} {Q:β→Sig→Prop} {a:α} (X:Ext F σ s F1 σ1 s1) (h:Post c Rv F1 σ1 s1 Q a s2):Post c Rv F σ s Q a s2 :=
 let ⟨F',σ',x,r,H,Y,q⟩:=h;⟨F',σ',x,r,H,X.trans Y,q⟩
theorem Post.mono {α β:Type} {c:Cfg} {Rv:FM→β→α→Prop} {F:FM} {σ:Sig} {s s2:Shared} {Q Q':β→Sig→Prop} {a:α} (h:Post c Rv F σ s Q a s2) (k:∀ x σ',Q x σ'→Q' x σ'):Post c Rv F σ s Q' a s2 :=
 let ⟨F',σ',x,r,H,Y,q⟩:=h;⟨F',σ',x,r,H,Y,k _ _ q⟩
noncomputable abbrev Cfg.M (c:Cfg):Model:=model c.prog c.w
structure TG {α β:Type} (c:Cfg) (Rv:FM→β→α→Prop) (A:Around) (t:Sem α) (σ:Sig) (Q:β→Sig→Prop):Prop where
 run:∀ F s E,St c F σ s→wpAny c.M A t (Post c Rv F σ s Q) E s
structure T1 {α β:Type} (c:Cfg) (Rv:FM→β→α→Prop) (A:Around) (k:Value→Sem α) (x:SV) (σ:Sig) (Q:β→Sig→Prop):Prop where
 run:∀ F s E v,St c F σ s→VRel F x v→wpAny c.M A (k v) (Post c Rv F σ s Q) E s
structure T2 {α β:Type} (c:Cfg) (Rv:FM→β→α→Prop) (A:Around) (k:Value→Value→Sem α) (x y:SV) (σ:Sig) (Q:β→Sig→Prop):Prop where
 run:∀ F s E v u,St c F σ s→VRel F x v→VRel F y u→wpAny c.M A (k v u) (Post c Rv F σ s Q) E s
structure T3 {α β:Type} (c:Cfg) (Rv:FM→β→α→Prop) (A:Around) (k:Value→Value→Value→Sem α) (x y z:SV) (σ:Sig) (Q:β→Sig→Prop):Prop where
 run:∀ F s E v u w,St c F σ s→VRel F x v→VRel F y u→VRel F z w→wpAny c.M A (k v u w) (Post c Rv F σ s Q) E s
structure TL {α β:Type} (c:Cfg) (Rv:FM→β→α→Prop) (A:Around) (k:List Value→Sem α) (xs:List SV) (σ:Sig) (Q:β→Sig→Prop):Prop where
 run:∀ F s E vs,St c F σ s→Paired (VRel F) xs vs→wpAny c.M A (k vs) (Post c Rv F σ s Q) E s
noncomputable abbrev RU (_:FM) (_:Unit) (_:Unit):Prop:=True
noncomputable abbrev RB (_:FM) (x y:Bool):Prop:=x=y
noncomputable abbrev RL (F:FM) (xs:List SV) (vs:List Value):Prop:=Paired (VRel F) xs vs
inductive SFlow where
 | next | brk | cont | ret (x:SV)
noncomputable def RF (F:FM):SFlow→Flow→Prop
 | .next,f=>f=.next
 | .brk,f=>f=.brk
 | .cont,f=>f=.cont
 | .ret x,f=>∃ v,f=.ret v∧VRel F x v
noncomputable abbrev TV (c:Cfg) (A:Around) (t:Sem Value) (σ:Sig) (Q:SV→Sig→Prop):Prop:=TG c VRel A t σ Q
noncomputable abbrev TU (c:Cfg) (A:Around) (t:Sem Unit) (σ:Sig) (Q:Sig→Prop):Prop:=TG c RU A t σ (fun _ σ'=>Q σ')
noncomputable abbrev TB (c:Cfg) (A:Around) (t:Sem Bool) (σ:Sig) (Q:Bool→Sig→Prop):Prop:=TG c RB A t σ Q
noncomputable abbrev TF (c:Cfg) (A:Around) (t:Sem Flow) (σ:Sig) (Q:SFlow→Sig→Prop):Prop:=TG c RF A t σ Q
noncomputable abbrev TVs (c:Cfg) (A:Around) (t:Sem (List Value)) (σ:Sig) (Q:List SV→Sig→Prop):Prop:=TG c RL A t σ Q
section
variable {c:Cfg} {A:Around} {F F':FM} {σ σ':Sig} {s:Shared} {α β γ δ:Type}
theorem TG.wp {Rv:FM→β→α→Prop} {t:Sem α} {Q:β→Sig→Prop} {P:α→Shared→Prop} {E:Value→Shared→Prop} (h:TG c Rv A t σ Q) (H:St c F σ s)
  (k:∀ a s1 F1 σ1 x,Rv F1 x a→St c F1 σ1 s1→Ext F σ s F1 σ1 s1→Q x σ1→P a s1):wpAny c.M A t P E s :=
 wpAny_mono (h.run F s E H) (fun a s1 ⟨F1,σ1,x,r,H1,X,q⟩=>k a s1 F1 σ1 x r H1 X q) fun _ _ e=>e
theorem TG.mono {Rv:FM→β→α→Prop} {t:Sem α} {Q Q':β→Sig→Prop} (h:TG c Rv A t σ Q) (k:∀ x σ',Q x σ'→Q' x σ'):TG c Rv A t σ Q' :=
 .mk fun F s E H=>wpAny_mono (h.run F s E H) (fun _ _ p=>p.mono k) fun _ _ e=>e
theorem St.lt {a:Addr} {o:SObj} (H:St c F σ s) (e:σ a=some o):a < s.heap.objs.size:=let ⟨_,g⟩:=(H.tr a o e).2.alive;Heap.lt_size g
theorem St.kin (H:St c F σ s):c.K.In s.heap:=fun a o e=>H.fz a o (H.base a o (c.kin a o e))
theorem St.old (H:St c F σ s):∀ b o,c.h₀.get? b=some o→s.heap.get? b=some o:=fun a o e=>H.fz a o (H.base a o e)
theorem get_fresh (h:Heap) {a:Addr} (ha:h.objs.size≤a):h.get? a=none:=by
 cases e:h.get? a with
 | none=>rfl
 | some o=>exact absurd (Heap.lt_size e) (Nat.not_lt.mpr ha)
noncomputable def upd (σ:Sig) (a:Addr) (o:Option SObj):Sig:=fun b=>if b=a then o else σ b
theorem upd_self (σ:Sig) (a:Addr) (o:Option SObj):upd σ a o a=o:=by simp [upd]
theorem upd_ne (σ:Sig) {a b:Addr} (o:Option SObj) (h:b≠a):upd σ a o b=σ b:=by simp [upd,h]
theorem St.same (H:St c F σ s) {h':Heap} {tk:Nat} (hk:∀ b o,s.heap.get? b=some o→h'.get? b=some o) :
  St c F σ { s with heap:=h',toks:=tk }∧Ext F σ s F σ { s with heap:=h',toks:=tk } :=
 ⟨⟨H.base,fun a o e=>hk _ _ (H.fz a o e),fun a o e=>⟨(H.tr a o e).1,(H.tr a o e).2.at (hk a)⟩⟩,
  ⟨.refl F,fun _ _ _ e=>hk _ _ e,fun a o e=>⟨o,hk _ _ e⟩,fun _ _ _ _=>⟨rfl,rfl⟩,rfl⟩⟩
theorem St.tok (H:St c F σ s) (tk:Nat):St c F σ { s with toks:=tk }∧Ext F σ s F σ { s with toks:=tk }:=H.same (h':=s.heap) fun _ _ e=>e
theorem St.new (H:St c F σ s) {h':Heap} {tk:Nat} {a:Addr} {o:SObj} (ha:s.heap.get? a=none) (hk:∀ b o,s.heap.get? b=some o→h'.get? b=some o) (ho:Holds c F a o h') :
  St c F (upd σ a (some o)) { s with heap:=h',toks:=tk }∧Ext F σ s F (upd σ a (some o)) { s with heap:=h',toks:=tk }:=by
 have hF:F a=none:=by
  cases e:F a with
  | none=>rfl
  | some x=>rw [H.fz a x e] at ha;cases ha
 refine ⟨⟨H.base,fun b x e=>hk _ _ (H.fz b x e),fun b x e=>?_⟩,⟨.refl F,fun _ _ _ e=>hk _ _ e,fun b x e=>⟨x,hk _ _ e⟩,fun b x g e=>?_,rfl⟩⟩
 ·by_cases q:b=a
  ·subst q;rw [upd_self] at e;cases e;exact ⟨hF,ho⟩
  ·rw [upd_ne _ _ q] at e;exact ⟨(H.tr b x e).1,(H.tr b x e).2.at (hk b)⟩
 ·have q:b≠a:=fun q=>by rw [q,ha] at g;cases g
  exact ⟨upd_ne _ _ q,rfl⟩
theorem St.set (H:St c F σ s) {h':Heap} {tk:Nat} {a:Addr} {o₀ o:SObj} (ha:σ a=some o₀) (hk:∀ b o,b≠a→s.heap.get? b=some o→h'.get? b=some o) (ho:Holds c F a o h') (hr:autoParam (o₀.isRo=false) aR) :
  St c F (upd σ a (some o)) { s with heap:=h',toks:=tk }∧Ext F σ s F (upd σ a (some o)) { s with heap:=h',toks:=tk }:=by
 have hF:=(H.tr a o₀ ha).1
 refine ⟨⟨H.base,fun b x e=>hk _ _ (fun q=>by rw [q,hF] at e;cases e) (H.fz b x e),fun b x e=>?_⟩,⟨.refl F,fun b x n e=>hk _ _ (fun q=>by rw [q,ha] at n;exact not_quiet hr n) e,fun b x e=>?_,fun b x g e=>?_,rfl⟩⟩
 ·by_cases q:b=a
  ·subst q;rw [upd_self] at e;cases e;exact ⟨hF,ho⟩
  ·rw [upd_ne _ _ q] at e;exact ⟨(H.tr b x e).1,(H.tr b x e).2.at fun _=>hk b _ q⟩
 ·by_cases q:b=a
  ·subst q;exact ho.alive
  ·exact ⟨x,hk _ _ q e⟩
 ·have q:b≠a:=fun q=>by rw [q,ha] at e;exact not_quiet hr e
  exact ⟨upd_ne _ _ q,rfl⟩
noncomputable def updF (F:FM) (a:Addr) (o:Obj):FM:=fun b=>if b=a then some o else F b
theorem updF_self (F:FM) (a:Addr) (o:Obj):updF F a o a=some o:=by simp [updF]
theorem updF_le {F:FM} {a:Addr} {o:Obj} (h:F a=none):FLe F (updF F a o):=fun b x e=>by
 by_cases q:b=a
 ·subst q;rw [h] at e;cases e
 ·simp [updF,q,e]
theorem St.newF (H:St c F σ s) {h':Heap} {tk:Nat} {a:Addr} {ob:Obj} (ha:s.heap.get? a=none) (hk:∀ b o,s.heap.get? b=some o→h'.get? b=some o) (ho:h'.get? a=some ob) :
  FLe F (updF F a ob)∧St c (updF F a ob) σ { s with heap:=h',toks:=tk }∧Ext F σ s (updF F a ob) σ { s with heap:=h',toks:=tk }:=by
 have hF:F a=none:=by
  cases e:F a with
  | none=>rfl
  | some x=>rw [H.fz a x e] at ha;cases ha
 have hσ:σ a=none:=by
  cases e:σ a with
  | none=>rfl
  | some x=>obtain ⟨_,g⟩:=(H.tr a x e).2.alive;rw [ha] at g;cases g
 have l:=updF_le (o:=ob) hF
 refine ⟨l,⟨fun b x e=>l _ _ (H.base b x e),fun b x e=>?_,fun b x e=>⟨?_,((H.tr b x e).2.at (hk b)).mono l⟩⟩,⟨l,fun _ _ _ e=>hk _ _ e,fun b x e=>⟨x,hk _ _ e⟩,fun b x g e=>⟨rfl,?_⟩,rfl⟩⟩
 ·by_cases q:b=a
  ·subst q;rw [updF_self] at e;cases e;exact ho
  ·exact hk _ _ (H.fz b x (by simpa [updF,q] using e))
 ·have q:b≠a:=fun q=>by rw [q,hσ] at e;cases e
  simpa [updF,q] using (H.tr b x e).1
 ·have q:b≠a:=fun q=>by rw [q,ha] at g;cases g
  simp [updF,q]
theorem St.less (H:St c F σ s) (h:∀ a,σ' a=σ a∨(σ' a=none∧¬Quiet (σ a))):St c F σ' s∧Ext F σ s F σ' s:=by
 refine ⟨⟨H.base,H.fz,fun b x e=>?_⟩,⟨.refl F,fun _ _ _ e=>e,fun b x e=>⟨x,e⟩,fun b x g e=>⟨?_,rfl⟩,rfl⟩⟩
 ·rcases h b with q | q
  ·exact H.tr b x (q▸e)
  ·rw [q.1] at e;cases e
 ·rcases h b with q | q
  ·exact q
  ·exact absurd e q.2
theorem St.drop (H:St c F σ s) (a:Addr) (h:∀ o,σ a=some o→o.isRo=false):St c F (upd σ a none) s∧Ext F σ s F (upd σ a none) s :=
 H.less fun b=>by
  by_cases q:b=a
  ·subst q
   cases e:σ b with
   | none=>exact .inl (upd_self ..)
   | some o=>exact .inr ⟨upd_self ..,not_quiet (h o e)⟩
  ·exact .inl (upd_ne _ _ q)
theorem St.freeze (H:St c F σ s) {a:Addr} {ds:List PyData} (ha:σ a=some (.list (ds.map SV.d))) :
  ∃ F',RD F' (.list ds) (.ref a)∧St c F' (upd σ a none) s∧Ext F σ s F' (upd σ a none) s:=by
 obtain ⟨hF,vs,n,g,p⟩:=H.tr a _ ha
 have l:=updF_le (o:=listObj vs n) hF
 refine ⟨updF F a (listObj vs n),?_,⟨fun b x e=>l _ _ (H.base b x e),fun b x e=>?_,fun b x e=>?_⟩,⟨l,fun _ _ _ e=>e,fun b x e=>⟨x,e⟩,fun b x gg e=>?_,rfl⟩⟩
 ·simp only [RD];exact ⟨a,vs,n,rfl,updF_self ..,(rds_of_paired p).mono l⟩
 ·by_cases q:b=a
  ·subst q;rw [updF_self] at e;cases e;exact g
  ·exact H.fz b x (by simpa [updF,q] using e)
 ·by_cases q:b=a
  ·subst q;rw [upd_self] at e;cases e
  ·rw [upd_ne _ _ q] at e;exact ⟨by simpa [updF,q] using (H.tr b x e).1,(H.tr b x e).2.mono l⟩
 ·have q:b≠a:=fun q=>by rw [q,ha] at e;exact not_quiet rfl e
  exact ⟨upd_ne _ _ q,by simp [updF,q]⟩
noncomputable def Rd (σ:Sig) (a:Addr) (o:SObj):Prop:=σ a=some o∨σ a=some (.ro o)
theorem Rd.holds {a:Addr} {o:SObj} (R:Rd σ a o) (H:St c F σ s):F a=none∧Holds c F a o s.heap:=by
 rcases R with e | e
 ·exact H.tr a o e
 ·exact H.tr a (.ro o) e
end
end Mine
end
section
namespace Mine
noncomputable def setm (m:Str→Option SV) (x:Str) (v:SV):Str→Option SV:=fun y=>if y=x then some v else m y
theorem setm_self (m:Str→Option SV) (x:Str) (v:SV):setm m x v x=some v:=by simp [setm]
theorem setm_ne (m:Str→Option SV) {x y:Str} (v:SV) (h:y≠x):setm m x v y=m y:=by simp [setm,h]
noncomputable def hideC (cs:List (Str×Addr)) (m:Str→Option SV):Str→Option SV:=fun x=>if (cs.lookup x).isSome then none else m x
noncomputable def fr (σ:Sig) (L:Addr) (cs:List (Str×Addr)) (m:Str→Option SV):Sig:=fun a =>
 if a=L then some (.ns (hideC cs m)) else match cs.find? (fun p=>p.2 == a) with
  | some p=>some (.cell (m p.1))
  | none=>σ a
structure FrOk (σ:Sig) (L:Addr) (cs:List (Str×Addr)):Prop where
 free:σ L=none
 cell:∀ p∈cs,σ p.2=none∧p.2≠L
 names:(cs.map (·.1)).Nodup
 apart:(cs.map (·.2)).Nodup
theorem fr_self (σ:Sig) (L:Addr) (cs:List (Str×Addr)) (m:Str→Option SV):fr σ L cs m L=some (.ns (hideC cs m)):=by simp [fr]
theorem lookup_mem {α β:Type} [BEq α] [LawfulBEq α]:∀ {l:List (α×β)} {x:α} {c:β},l.lookup x=some c→(x,c)∈l
 | [],_,_,h=>by simp at h
 | (y,d) :: r,x,c,h=>by
  rw [List.lookup_cons] at h
  by_cases q:x=y
  ·subst q;simp at h;subst h;exact .head _
  ·have:(x == y)=false:=by simpa using q
   rw [this] at h;exact .tail _ (lookup_mem h)
theorem lookup_of_mem {α β:Type} [BEq α] [LawfulBEq α]:∀ {l:List (α×β)} {x:α} {c:β},(l.map (·.1)).Nodup→(x,c)∈l→l.lookup x=some c
 | (y,d) :: r,x,c,hn,h=>by
  rw [List.map_cons,List.nodup_cons] at hn
  rcases List.mem_cons.mp h with e | e
  ·cases e;simp
  ·have:x≠y:=fun q=>hn.1 (q▸List.mem_map.mpr ⟨_,e,rfl⟩)
   rw [List.lookup_cons,show (x == y)=false by simpa using this]
   exact lookup_of_mem hn.2 e
theorem find_cell {cs:List (Str×Addr)} (hn:(cs.map (·.2)).Nodup) {p:Str×Addr} (hp:p∈cs):cs.find? (fun q=>q.2 == p.2)=some p:=by
 induction cs with
 | nil=>cases hp
 | cons q r ih =>
  rw [List.map_cons,List.nodup_cons] at hn
  rw [List.find?_cons]
  rcases List.mem_cons.mp hp with e | e
  ·subst e;simp
  ·have:q.2≠p.2:=fun z=>hn.1 (z▸List.mem_map.mpr ⟨_,e,rfl⟩)
   rw [show (q.2 == p.2)=false by simpa using this]
   exact ih hn.2 e
theorem fr_cell {σ:Sig} {L:Addr} {cs:List (Str×Addr)} {m:Str→Option SV} (ok:FrOk σ L cs) {x:Str} {a:Addr} (h:cs.lookup x=some a):fr σ L cs m a=some (.cell (m x)):=by
 have hm:=lookup_mem h
 have hne:=(ok.cell _ hm).2
 unfold fr
 rw [if_neg hne,find_cell ok.apart hm]
theorem fr_other {σ:Sig} {L:Addr} {cs:List (Str×Addr)} {m:Str→Option SV} {a:Addr} (h1:a≠L) (h2:∀ p∈cs,p.2≠a):fr σ L cs m a=σ a:=by
 unfold fr
 rw [if_neg h1,List.find?_eq_none.mpr fun p hp=>by simpa using h2 p hp]
theorem fr_some {σ:Sig} {L:Addr} {cs:List (Str×Addr)} {m:Str→Option SV} (ok:FrOk σ L cs) {a:Addr} {o:SObj} (h:σ a=some o):fr σ L cs m a=some o:=by
 rw [fr_other (fun q=>?_) (fun p hp q=>?_)];exact h
 ·subst q;rw [ok.free] at h;cases h
 ·rw [←q,(ok.cell p hp).1] at h;cases h
theorem fr_none {σ:Sig} {L:Addr} {cs:List (Str×Addr)} {m:Str→Option SV} {a:Addr} (h:fr σ L cs m a=none):a≠L∧(∀ p∈cs,p.2≠a)∧σ a=none:=by
 unfold fr at h
 by_cases q:a=L
 ·rw [if_pos q] at h;cases h
 ·rw [if_neg q] at h
  cases e:cs.find? (fun p=>p.2 == a) with
  | some p=>rw [e] at h;cases h
  | none=>rw [e] at h;exact ⟨q,fun p hp=>by simpa using List.find?_eq_none.mp e p hp,h⟩
theorem upd_fr_some {σ:Sig} {L:Addr} {cs:List (Str×Addr)} {m:Str→Option SV} (ok:FrOk σ L cs) {a:Addr} {o:SObj} (o':Option SObj) (h:σ a=some o):upd (fr σ L cs m) a o'=fr (upd σ a o') L cs m:=by
 have h1:a≠L:=fun q=>by subst q;rw [ok.free] at h;cases h
 have h2:∀ p∈cs,p.2≠a:=fun p hp q=>by rw [←q,(ok.cell p hp).1] at h;cases h
 funext b
 by_cases q:b=a
 ·subst q;rw [upd_self,fr_other h1 h2,upd_self]
 ·rw [upd_ne _ _ q]
  unfold fr
  by_cases r:b=L
  ·rw [if_pos r,if_pos r]
  ·rw [if_neg r,if_neg r,upd_ne _ _ q]
theorem upd_fr_none {σ:Sig} {L:Addr} {cs:List (Str×Addr)} {m:Str→Option SV} {a:Addr} (o':Option SObj) (h:fr σ L cs m a=none):upd (fr σ L cs m) a o'=fr (upd σ a o') L cs m:=by
 obtain ⟨h1,h2,_⟩:=fr_none h
 funext b
 by_cases q:b=a
 ·subst q;rw [upd_self,fr_other h1 h2,upd_self]
 ·rw [upd_ne _ _ q]
  unfold fr
  by_cases r:b=L
  ·rw [if_pos r,if_pos r]
  ·rw [if_neg r,if_neg r,upd_ne _ _ q]
theorem FrOk.set {σ:Sig} {L:Addr} {cs:List (Str×Addr)} (ok:FrOk σ L cs) {a:Addr} {o:SObj} (o':Option SObj) (h:σ a=some o):FrOk (upd σ a o') L cs where
 free:=by rw [upd_ne _ _ (fun q=>by rw [←q,ok.free] at h;cases h)];exact ok.free
 cell:=fun p hp=>⟨by rw [upd_ne _ _ (fun q=>by rw [←q,(ok.cell p hp).1] at h;cases h)];exact (ok.cell p hp).1,(ok.cell p hp).2⟩
 names:=ok.names
 apart:=ok.apart
theorem FrOk.new {σ:Sig} {L:Addr} {cs:List (Str×Addr)} {m:Str→Option SV} (ok:FrOk σ L cs) {a:Addr} (o':Option SObj) (h:fr σ L cs m a=none):FrOk (upd σ a o') L cs:=by
 obtain ⟨h1,h2,_⟩:=fr_none h
 exact ⟨by rw [upd_ne _ _ (Ne.symm h1)];exact ok.free,fun p hp=>⟨by rw [upd_ne _ _ (h2 p hp)];exact (ok.cell p hp).1,(ok.cell p hp).2⟩,ok.names,ok.apart⟩
theorem upd_fr_local {σ:Sig} {L:Addr} {cs:List (Str×Addr)} {m:Str→Option SV} {x:Str} {v:SV} (h:cs.lookup x=none) :
  upd (fr σ L cs m) L (some (.ns (hideC cs (setm m x v))))=fr σ L cs (setm m x v):=by
 funext b
 by_cases q:b=L
 ·subst q;rw [upd_self,fr_self]
 ·rw [upd_ne _ _ q]
  unfold fr
  rw [if_neg q,if_neg q]
  cases e:cs.find? (fun p=>p.2 == b) with
  | none=>rfl
  | some p =>
   have hp:=List.mem_of_find?_eq_some e
   have:p.1≠x:=fun z=>by
    have:(cs.lookup x)≠none:=by
     subst z
     clear e h
     induction cs with
     | nil=>cases hp
     | cons y r ih =>
      obtain ⟨y1,y2⟩:=y
      rw [List.lookup_cons]
      by_cases w:p.1=y1
      ·subst w;simp
      ·rw [show (p.1 == y1)=false by simpa using w]
       rcases List.mem_cons.mp hp with hh | hh
       ·subst hh;exact absurd rfl w
       ·exact ih hh
    exact this h
   simp only [setm,if_neg this]
theorem upd_fr_cell {σ:Sig} {L:Addr} {cs:List (Str×Addr)} {m:Str→Option SV} {x:Str} {v:SV} {a:Addr} (ok:FrOk σ L cs) (h:cs.lookup x=some a) :
  upd (fr σ L cs m) a (some (.cell (some v)))=fr σ L cs (setm m x v):=by
 have hm:=lookup_mem h
 have hne:=(ok.cell _ hm).2
 funext b
 by_cases q:b=a
 ·subst q;rw [upd_self,fr_cell ok h,setm_self]
 ·rw [upd_ne _ _ q]
  unfold fr
  by_cases r:b=L
  ·rw [if_pos r,if_pos r]
   congr 2
   funext y
   unfold hideC
   by_cases w:y=x
   ·subst w;rw [h];rfl
   ·rw [setm_ne _ _ w]
  ·rw [if_neg r,if_neg r]
   cases e:cs.find? (fun p=>p.2 == b) with
   | none=>rfl
   | some p =>
    have hp:=List.mem_of_find?_eq_some e
    have e2:p.2=b:=by simpa using List.find?_some e
    have:p.1≠x:=fun z=>by
     have:=lookup_of_mem ok.names (show (x,p.2)∈cs by rw [←z];exact hp)
     rw [h] at this
     exact q (by rw [←e2];exact (Option.some.inj this).symm)
    simp only [setm,if_neg this]
theorem fr_weaken {c:Cfg} {F:FM} {σ:Sig} {L:Addr} {cs:List (Str×Addr)} {m m':Str→Option SV} {s:Shared} (h:∀ x v,m' x=some v→m x=some v) (H:St c F (fr σ L cs m) s):St c F (fr σ L cs m') s∧Ext F (fr σ L cs m) s F (fr σ L cs m') s:=by
 refine ⟨⟨H.base,H.fz,fun b o e=>?_⟩,⟨.refl F,fun _ _ _ e=>e,fun b x e=>⟨x,e⟩,fun b x _ e=>⟨?_,rfl⟩,rfl⟩⟩
 ·unfold fr at e
  by_cases q:b=L
  ·rw [if_pos q] at e
   cases e
   subst q
   obtain ⟨h1,m1,h2,h3⟩:=H.tr _ _ (fr_self σ b cs m)
   refine ⟨h1,m1,h2,fun x v ex=>?_⟩
   unfold hideC at ex h3
   split at ex
   ·cases ex
   ·rename_i hx
    exact h3 x v (by rw [if_neg hx];exact h _ _ ex)
  ·rw [if_neg q] at e
   have hh:=H.tr b
   unfold fr at hh
   rw [if_neg q] at hh
   cases w:cs.find? (fun p=>p.2 == b) with
   | none=>rw [w] at e hh;exact hh o e
   | some p =>
    rw [w] at e hh
    cases e
    obtain ⟨h1,v1,h2,h3⟩:=hh _ rfl
    exact ⟨h1,v1,h2,fun x ex=>h3 x (h _ _ ex)⟩
 ·unfold fr at e ⊢
  by_cases q:b=L
  ·rw [if_pos q] at e;cases e
  ·rw [if_neg q] at e ⊢
   rw [if_neg q]
   cases w:cs.find? (fun p=>p.2 == b) with
   | none=>rfl
   | some p=>rw [w] at e;cases e
section
variable {c:Cfg} {A:Around} {σ:Sig} {env:Env} {L:Addr} {cs:List (Str×Addr)} {m:Str→Option SV}
theorem TG.weaken {α β:Type} {Rv:FM→β→α→Prop} {t:Sem α} {Q:β→Sig→Prop} {m':Str→Option SV} (h:∀ x v,m' x=some v→m x=some v) (T:TG c Rv A t (fr σ L cs m') Q):TG c Rv A t (fr σ L cs m) Q :=
 .mk fun F s E H=>let ⟨H',X⟩:=fr_weaken h H;wpAny_mono (T.run F s E H') (fun _ _ p=>p.lift X) fun _ _ e=>e
theorem TG.drop {α β:Type} {Rv:FM→β→α→Prop} {t:Sem α} {Q:β→Sig→Prop} (a:Addr) (ha:∀ o,σ a=some o→o.isRo=false) (T:TG c Rv A t (upd σ a none) Q):TG c Rv A t σ Q :=
 .mk fun F s E H=>let ⟨H',X⟩:=H.drop a ha;wpAny_mono (T.run F s E H') (fun _ _ p=>p.lift X) fun _ _ e=>e
noncomputable def Nx (c:Cfg) (A:Around) (rest:List Stmt) (env:Env) (Q:SFlow→Sig→Prop):SFlow→Sig→Prop
 | .next,σ=>TF c A (execs rest env) σ Q
 | f,σ=>Q f σ
theorem Nx.next {rest:List Stmt} {Q:SFlow→Sig→Prop} (h:TF c A (execs rest env) σ Q):Nx c A rest env Q .next σ:=h
theorem Nx.brk {rest:List Stmt} {Q:SFlow→Sig→Prop} (h:Q .brk σ):Nx c A rest env Q .brk σ:=h
theorem Nx.cont {rest:List Stmt} {Q:SFlow→Sig→Prop} (h:Q .cont σ):Nx c A rest env Q .cont σ:=h
theorem T_nil {Q:SFlow→Sig→Prop} (h:Q .next σ):TF c A (execs [] env) σ Q:=.mk fun _ _ _ H=>wpAny_execs_nil ⟨_,_,.next,rfl,H,.refl ..,h⟩
theorem T_cons {st:Stmt} {rest:List Stmt} {Q:SFlow→Sig→Prop} (h:TF c A (exec st env) σ (Nx c A rest env Q)):TF c A (execs (st :: rest) env) σ Q:=.mk fun F s E H =>
 wpAny_execs_cons (h.wp H fun f s1 F1 σ1 x r H1 X q=>by
  cases x with
  | next=>cases r;exact wpAny_mono (q.run F1 s1 E H1) (fun _ _ p=>p.lift X) fun _ _ e=>e
  | brk=>cases r;exact ⟨_,_,.brk,rfl,H1,X,q⟩
  | cont=>cases r;exact ⟨_,_,.cont,rfl,H1,X,q⟩
  | ret x=>obtain ⟨v,rfl,r⟩:=r;exact ⟨_,_,.ret x,⟨v,rfl,r⟩,H1,X,q⟩)
theorem T_local {x:Str} {pos:Pos} {v:SV} {Q:SV→Sig→Prop} (hv:m x=some v) (h:Q v (fr σ L cs m)) (hc:cs.lookup x=none) (hL:env.locals=L) (hk:env.scope.kind=.function) (hl:env.kindOf x=some .local)
  (hd:(x == ("__debug__":Str))=false):TV c A (eval (.Name x pos) env) (fr σ L cs m) Q:=.mk fun F s E H=>by
 obtain ⟨_,m',hn,hm⟩:=H.tr _ _ (fr_self σ L cs m)
 obtain ⟨v',e,r⟩:=hm x v (by unfold hideC;rw [hc];exact hv)
 exact wpAny_Name (wpAny_loadName_local hk hl (hL▸hn) e ⟨F,_,v,r,H,.refl ..,h⟩) hd
theorem T_cellAt {a:Addr} {x:Str} {pos:Pos} {v:SV} {Q:SV→Sig→Prop} (ha:σ a=some (.cell (some v))) (h:Q v σ) (hc:env.cells.lookup x=some a) (hk:env.scope.kind=.function) (hl:env.kindOf x=some .cell∨env.kindOf x=some .free)
  (hd:(x == ("__debug__":Str))=false) (hd2:(x == ("__classdict__":Str))=false):TV c A (eval (.Name x pos) env) σ Q:=.mk fun F s E H=>by
 obtain ⟨_,v',hn,hm⟩:=H.tr _ _ ha
 obtain ⟨u,rfl,r⟩:=hm v rfl
 rcases hl with hl | hl
 ·exact wpAny_Name (wpAny_loadName_cell hk hl hc hn ⟨F,_,v,r,H,.refl ..,h⟩) hd
 ·exact wpAny_Name (wpAny_loadName_free hk hl hc hn ⟨F,_,v,r,H,.refl ..,h⟩ hd2) hd
theorem T_cell {a:Addr} {x:Str} {pos:Pos} {v:SV} {Q:SV→Sig→Prop} (hv:m x=some v) (ok:FrOk σ L cs) (h:Q v (fr σ L cs m)) (hc:cs.lookup x=some a) (hc':env.cells.lookup x=some a) (hk:env.scope.kind=.function) (hl:env.kindOf x=some .cell∨env.kindOf x=some .free)
  (hd:(x == ("__debug__":Str))=false) (hd2:(x == ("__classdict__":Str))=false):TV c A (eval (.Name x pos) env) (fr σ L cs m) Q :=
 T_cellAt (by rw [fr_cell ok hc,hv]) h hc' hk hl hd hd2
theorem T_global {x:Str} {pos:Pos} {v:Value} {Q:SV→Sig→Prop} (e:nsIn c.K mainGlobals x=some (some v)) (h:Q (.lit v) σ) (hg:env.globals=mainGlobals) (hk:env.scope.kind=.function) (hx:env.kindOf x=some .globalImplicit) (hd:(x == ("__debug__":Str))=false) :
  TV c A (eval (.Name x pos) env) σ Q:=.mk fun F _ _ H =>
 Name_function_global hk hx (loadGlobal_global (env:=env) (by rw [hg];exact c.top.g.keeps H.old) (mg_of c.kin c.top.g e) ⟨F,σ,.lit v,rfl,H,.refl ..,h⟩) hd
theorem T_storeLocal {x:Str} {v:SV} {Q:Sig→Prop} (h:Q (fr σ L cs (setm m x v))) (hc:cs.lookup x=none) (hL:env.locals=L) (hk:env.scope.kind=.function) (hl:env.kindOf x=some .local) :
  T1 c RU A (storeName env x) v (fr σ L cs m) (fun _ σ'=>Q σ'):=.mk fun F s E u H r=>by
 obtain ⟨_,m',hn,hm⟩:=H.tr _ _ (fr_self σ L cs m)
 refine wpAny_storeName_local hl (hL▸hn) (fun h' hn' hs'=>?_) (by rw [hk];rfl)
 have S:=H.set (a:=L) (o:=.ns (hideC cs (setm m x v))) (h':=h') (tk:=s.toks+1) (fr_self σ L cs m) (fun b o hb e=>(hs'.2 b (hL▸hb)).trans e) ⟨_,hL▸hn',fun y w e=>?_⟩
 ·rw [upd_fr_local hc] at S
  exact ⟨F,_,(),trivial,S.1,S.2,h⟩
 ·unfold hideC at e
  split at e
  ·cases e
  ·rename_i hy
   by_cases q:y=x
   ·subst q;rw [setm_self] at e;cases e;exact ⟨u,by simp,r⟩
   ·rw [setm_ne _ _ q] at e
    obtain ⟨v',e1,e2⟩:=hm y w (by unfold hideC;rw [if_neg hy];exact e)
    exact ⟨v',by simp [q,e1],e2⟩
theorem T_storeCell {x:Str} {v:SV} {a:Addr} {Q:Sig→Prop} (ok:FrOk σ L cs) (h:Q (fr σ L cs (setm m x v))) (hc:cs.lookup x=some a) (hc':env.cells.lookup x=some a) (hk:env.scope.kind=.function) (hl:env.kindOf x=some .cell) :
  T1 c RU A (storeName env x) v (fr σ L cs m) (fun _ σ'=>Q σ'):=.mk fun F s E u H r=>by
 obtain ⟨_,v',hn,hm⟩:=H.tr _ _ (fr_cell (m:=m) ok hc)
 refine wpAny_storeName_cell hk hl hc' hn (fun h' hn' hs'=>?_)
 have S:=H.set (a:=a) (o:=.cell (some v)) (h':=h') (tk:=s.toks) (fr_cell (m:=m) ok hc) (fun b o hb e=>(hs'.2 b hb).trans e) ⟨_,hn',fun y e=>⟨u,rfl,by cases e;exact r⟩⟩
 rw [upd_fr_cell ok hc] at S
 exact ⟨F,_,(),trivial,S.1,S.2,h⟩
theorem T_loadLocal {x:Str} {v:SV} {Q:SV→Sig→Prop} (hv:m x=some v) (h:Q v (fr σ L cs m)) (hc:cs.lookup x=none) (hL:env.locals=L) (hk:env.scope.kind=.function) (hl:env.kindOf x=some .local) :
  TV c A (loadName env x) (fr σ L cs m) Q:=.mk fun F s E H=>by
 obtain ⟨_,m',hn,hm⟩:=H.tr _ _ (fr_self σ L cs m)
 obtain ⟨v',e,r⟩:=hm x v (by unfold hideC;rw [hc];exact hv)
 exact wpAny_loadName_local hk hl (hL▸hn) e ⟨F,_,v,r,H,.refl ..,h⟩
theorem T_int {i:Int} {k:Nat} {pos:Pos} {Q:SV→Sig→Prop} (h:Q (.d (.int i)) σ):TV c A (eval (.Constant (.int i) k pos) env) σ Q:=.mk fun F s _ H =>
 let S:=H.tok (s.toks+1);wpAny_Constant_int ⟨F,σ,.d (.int i),by simp only [VRel,RD];exact ⟨_,rfl⟩,S.1,S.2,h⟩
theorem T_str {x:Str} {k:Nat} {pos:Pos} {Q:SV→Sig→Prop} (h:Q (.d (.str x)) σ):TV c A (eval (.Constant (.str x) k pos) env) σ Q:=.mk fun F s _ H =>
 let S:=H.tok (s.toks+1);wpAny_Constant_str ⟨F,σ,.d (.str x),by simp only [VRel,RD];exact ⟨_,rfl⟩,S.1,S.2,h⟩
theorem T_true {k:Nat} {pos:Pos} {b:Bool} {Q:SV→Sig→Prop} (h:Q (.d (.bool b)) σ):TV c A (eval (.Constant (.bool b) k pos) env) σ Q:=.mk fun F _ _ H =>
 wpAny_Constant_bool ⟨F,σ,.d (.bool b),by simp only [VRel,RD],H,.refl ..,h⟩
theorem T_none {k:Nat} {pos:Pos} {Q:SV→Sig→Prop} (h:Q (.d .none) σ):TV c A (eval (.Constant .none k pos) env) σ Q:=.mk fun F _ _ H =>
 wpAny_Constant_none ⟨F,σ,.d .none,by simp only [VRel,RD],H,.refl ..,h⟩
theorem T_bin {l r:Expr} {op:Operator} {pos:Pos} {Q:SV→Sig→Prop} (h:TV c A (eval l env) σ (fun x σ1=>TV c A (eval r env) σ1 (fun y σ2=>T2 c VRel A (binaryOp op) x y σ2 Q))) :
  TV c A (eval (.BinOp l op r pos) env) σ Q:=.mk fun _ _ E H =>
 wpAny_BinOp (h.wp H fun v s1 F1 σ1 x r1 H1 X1 q1=>q1.wp H1 fun u s2 F2 σ2 y r2 H2 X2 q2 =>
  wpAny_mono (q2.run F2 s2 E v u H2 (r1.mono X2.fle) r2) (fun _ _ p=>p.lift (X1.trans X2)) fun _ _ e=>e)
theorem T_un {x:Expr} {op:UnaryOp} {pos:Pos} {Q:SV→Sig→Prop} (h:TV c A (eval x env) σ (fun x σ1=>T1 c VRel A (unaryOp op) x σ1 Q)) :
  TV c A (eval (.UnaryOp op x pos) env) σ Q:=.mk fun _ _ E H =>
 wpAny_UnaryOp (h.wp H fun v s1 F1 σ1 x r1 H1 X1 q1=>wpAny_mono (q1.run F1 s1 E v H1 r1) (fun _ _ p=>p.lift X1) fun _ _ e=>e)
theorem T_cmp {l r:Expr} {op:CmpOp} {pos:Pos} {Q:SV→Sig→Prop} (h:TV c A (eval l env) σ (fun x σ1=>TV c A (eval r env) σ1 (fun y σ2=>T2 c VRel A (compareOp op) x y σ2 Q)))
  (hb:behindInMarks op r=false):TV c A (eval (.Compare l [op] [r] pos) env) σ Q:=.mk fun _ _ E H =>
 wpAny_Compare1 (h.wp H fun v s1 F1 σ1 x r1 H1 X1 q1=>q1.wp H1 fun u s2 F2 σ2 y r2 H2 X2 q2 =>
  wpAny_mono (q2.run F2 s2 E v u H2 (r1.mono X2.fle) r2) (fun _ _ p=>p.lift (X1.trans X2)) fun _ _ e=>e) hb
noncomputable def Truth (c:Cfg) (A:Around) (x:SV) (σ:Sig) (Q:Bool→Sig→Prop):Prop:=T1 c RB A truthy x σ Q
theorem truth_bool {b:Bool} {Q:Bool→Sig→Prop} (h:Q b σ):Truth c A (.d (.bool b)) σ Q:=.mk fun F _ _ v H r=>by
 have:v=.bool b:=by simpa only [VRel,RD] using r
 subst this
 exact wpAny_truthy_bool ⟨F,σ,b,rfl,H,.refl ..,h⟩
theorem T_isCmp {l r:Expr} {op:CmpOp} {pos:Pos} {whole:Sem Value} {Q:Bool→Sig→Prop}
  (h:TV c A (eval l env) σ (fun x σ1=>TV c A (eval r env) σ1 (fun y σ2=>T2 c VRel A (compareOp op) x y σ2 (fun z σ3=>Truth c A z σ3 Q)))) (hb:behindInMarks op r=false) :
  TB c A (PySem.isTrue (.Compare l [op] [r] pos) env whole) σ Q:=.mk fun _ _ E H =>
 wpAny_isTrue_Compare1 (h.wp H fun v s1 F1 σ1 x r1 H1 X1 q1=>q1.wp H1 fun u s2 F2 σ2 y r2 H2 X2 q2 =>
  wpAny_mono (q2.run F2 s2 E v u H2 (r1.mono X2.fle) r2) (fun w s3 ⟨F3,σ3,z,r3,H3,X3,q3⟩=>wpAny_mono (q3.run F3 s3 E w H3 r3) (fun _ _ p=>p.lift ((X1.trans X2).trans X3)) fun _ _ e=>e) fun _ _ e=>e) hb
theorem T_isNot {x:Expr} {pos:Pos} {whole:Sem Value} {Q:Bool→Sig→Prop} (h:TB c A (PySem.isTrue x env (eval x env)) σ (fun b σ1=>Q (!b) σ1)) :
  TB c A (PySem.isTrue (.UnaryOp .Not x pos) env whole) σ Q:=.mk fun _ _ _ H =>
 wpAny_isTrue_Not (h.wp H fun _ _ F1 σ1 b r1 H1 X1 q1=>⟨F1,σ1,!b,by cases r1;rfl,H1,X1,q1⟩)
theorem T_isVal {e:Expr} {whole:Sem Value} {Q:Bool→Sig→Prop} (h:TV c A whole σ (fun x σ1=>Truth c A x σ1 Q))
  (hw:PySem.isTrue e env whole=(do let v ←whole;standAt e.pos;holding [v] (truthy v))):TB c A (PySem.isTrue e env whole) σ Q:=.mk fun _ _ E H =>
 wpAny_isTrue_value (h.wp H fun v s1 F1 σ1 x r1 H1 X1 q1=>wpAny_mono (q1.run F1 s1 E v H1 r1) (fun _ _ p=>p.lift X1) fun _ _ e=>e) hw
theorem T_isBool {op:BoolOp} {values:List Expr} {pos:Pos} {whole:Sem Value} {Q:Bool→Sig→Prop} (h:TB c A (allTrue op values env) σ Q):TB c A (PySem.isTrue (.BoolOp op values pos) env whole) σ Q:=.mk fun F s E H =>
 wpAny_isTrue_BoolOp (h.run F s E H)
theorem T_and_cons {x:Expr} {rest:List Expr} {Q:Bool→Sig→Prop} (h:TB c A (PySem.isTrue x env (eval x env)) σ (fun b σ1=>(b=true→TB c A (allTrue .And rest env) σ1 Q)∧(b=false→Q false σ1))) :
  TB c A (allTrue .And (x :: rest) env) σ Q:=.mk fun _ _ E H =>
 wpAny_allTrue_And_cons (h.wp H fun b s1 F1 σ1 x r1 H1 X1 q1=>by
  cases r1
  cases b with
  | true=>exact wpAny_mono ((q1.1 rfl).run F1 s1 E H1) (fun _ _ p=>p.lift X1) fun _ _ e=>e
  | false=>exact ⟨F1,σ1,false,rfl,H1,X1,q1.2 rfl⟩)
theorem T_and_nil {Q:Bool→Sig→Prop} (h:Q true σ):TB c A (allTrue .And [] env) σ Q:=.mk fun F _ _ H=>wpAny_allTrue_And_nil ⟨F,σ,true,rfl,H,.refl ..,h⟩
theorem T_or_cons {x:Expr} {rest:List Expr} {Q:Bool→Sig→Prop} (h:TB c A (PySem.isTrue x env (eval x env)) σ (fun b σ1=>(b=true→Q true σ1)∧(b=false→TB c A (allTrue .Or rest env) σ1 Q))) :
  TB c A (allTrue .Or (x :: rest) env) σ Q:=.mk fun _ _ E H =>
 wpAny_allTrue_Or_cons (h.wp H fun b s1 F1 σ1 x r1 H1 X1 q1=>by
  cases r1
  cases b with
  | false=>exact wpAny_mono ((q1.2 rfl).run F1 s1 E H1) (fun _ _ p=>p.lift X1) fun _ _ e=>e
  | true=>exact ⟨F1,σ1,true,rfl,H1,X1,q1.1 rfl⟩)
theorem T_or_nil {Q:Bool→Sig→Prop} (h:Q false σ):TB c A (allTrue .Or [] env) σ Q:=.mk fun F _ _ H=>wpAny_allTrue_Or_nil ⟨F,σ,false,rfl,H,.refl ..,h⟩
theorem T_and2 {x y:Expr} {pos:Pos} {Q:SV→Sig→Prop} (h:TV c A (eval x env) σ (fun v σ1=>Truth c A v σ1 (fun b σ2=>(b=true→TV c A (eval y env) σ2 Q)∧(b=false→Q v σ2)))) :
  TV c A (eval (.BoolOp .And [x,y] pos) env) σ Q:=.mk fun _ _ E H =>
 wpAny_And2 (h.wp H fun v s1 F1 σ1 x r1 H1 X1 q1=>wpAny_mono (q1.run F1 s1 E v H1 r1) (fun b s2 ⟨F2,σ2,b',r2,H2,X2,q2⟩=>by
  cases r2
  cases b with
  | true=>exact wpAny_mono ((q2.1 rfl).run F2 s2 E H2) (fun _ _ p=>p.lift (X1.trans X2)) fun _ _ e=>e
  | false=>exact ⟨F2,σ2,x,r1.mono X2.fle,H2,X1.trans X2,q2.2 rfl⟩) fun _ _ e=>e)
theorem T_or2 {x y:Expr} {pos:Pos} {Q:SV→Sig→Prop} (h:TV c A (eval x env) σ (fun v σ1=>Truth c A v σ1 (fun b σ2=>(b=true→Q v σ2)∧(b=false→TV c A (eval y env) σ2 Q)))) :
  TV c A (eval (.BoolOp .Or [x,y] pos) env) σ Q:=.mk fun _ _ E H =>
 wpAny_Or2 (h.wp H fun v s1 F1 σ1 x r1 H1 X1 q1=>wpAny_mono (q1.run F1 s1 E v H1 r1) (fun b s2 ⟨F2,σ2,b',r2,H2,X2,q2⟩=>by
  cases r2
  cases b with
  | false=>exact wpAny_mono ((q2.2 rfl).run F2 s2 E H2) (fun _ _ p=>p.lift (X1.trans X2)) fun _ _ e=>e
  | true=>exact ⟨F2,σ2,x,r1.mono X2.fle,H2,X1.trans X2,q2.1 rfl⟩) fun _ _ e=>e)
theorem T_ifexp {t b o:Expr} {pos:Pos} {Q:SV→Sig→Prop} (h:TB c A (PySem.isTrue t env (eval t env)) σ (fun z σ1=>(z=true→TV c A (eval b env) σ1 Q)∧(z=false→TV c A (eval o env) σ1 Q))) :
  TV c A (eval (.IfExp t b o pos) env) σ Q:=.mk fun _ _ E H =>
 wpAny_IfExp (h.wp H fun z s1 F1 σ1 x r1 H1 X1 q1=>by
  cases r1
  cases z with
  | true=>exact wpAny_mono ((q1.1 rfl).run F1 s1 E H1) (fun _ _ p=>p.lift X1) fun _ _ e=>e
  | false=>exact wpAny_mono ((q1.2 rfl).run F1 s1 E H1) (fun _ _ p=>p.lift X1) fun _ _ e=>e)
theorem T_if {t:Expr} {b o:List Stmt} {pos:Pos} {Q:SFlow→Sig→Prop} (h:TB c A (PySem.isTrue t env (eval t env)) σ (fun z σ1=>(z=true→TF c A (execs b env) σ1 Q)∧(z=false→TF c A (execs o env) σ1 Q))) :
  TF c A (exec (.If t b o pos) env) σ Q:=.mk fun _ _ E H =>
 wpAny_If (h.wp H fun z s1 F1 σ1 x r1 H1 X1 q1=>by
  cases r1
  cases z with
  | true=>exact wpAny_mono ((q1.1 rfl).run F1 s1 E H1) (fun _ _ p=>p.lift X1) fun _ _ e=>e
  | false=>exact wpAny_mono ((q1.2 rfl).run F1 s1 E H1) (fun _ _ p=>p.lift X1) fun _ _ e=>e)
theorem T_ret {e:Expr} {pos:Pos} {Q:SFlow→Sig→Prop} (h:TV c A (eval e env) σ (fun x σ1=>Q (.ret x) σ1)):TF c A (exec (.Return (some e) pos) env) σ Q:=.mk fun _ _ _ H =>
 wpAny_Return_some (h.wp H fun v _ F1 σ1 x r1 H1 X1 q1=>⟨F1,σ1,.ret x,⟨v,rfl,r1⟩,H1,X1,q1⟩)
theorem T_break {pos:Pos} {Q:SFlow→Sig→Prop} (h:Q .brk σ):TF c A (exec (.Break pos) env) σ Q:=.mk fun F _ _ H=>wpAny_Break ⟨F,σ,.brk,rfl,H,.refl ..,h⟩
theorem T_continue {pos:Pos} {Q:SFlow→Sig→Prop} (h:Q .cont σ):TF c A (exec (.Continue pos) env) σ Q:=.mk fun F _ _ H=>wpAny_Continue ⟨F,σ,.cont,rfl,H,.refl ..,h⟩
theorem T_expr {e:Expr} {pos:Pos} {Q:SFlow→Sig→Prop} (h:TV c A (eval e env) σ (fun _ σ1=>Q .next σ1)) (hi:interactive env=false) (hs:swapsWith e none pos.line env=pure false) :
  TF c A (exec (.Expr e pos) env) σ Q:=.mk fun _ _ _ H =>
 wpAny_Expr_any (h.wp H fun _ _ F1 σ1 _ _ H1 X1 q1=>⟨F1,σ1,.next,rfl,H1,X1,q1⟩) hi hs
theorem T_assign {x:Str} {p' pos:Pos} {e:Expr} {Q:SFlow→Sig→Prop} (h:TV c A (eval e env) σ (fun v σ1=>T1 c RU A (storeName env x) v σ1 (fun _ σ2=>Q .next σ2))) (hs:swapsWith e (some (.Name x p')) pos.line env=pure false) :
  TF c A (exec (.Assign [.Name x p'] e pos) env) σ Q:=.mk fun _ _ E H =>
 wpAny_Assign_Name (h.wp H fun v s1 F1 σ1 x r1 H1 X1 q1=>wpAny_mono (q1.run F1 s1 E v H1 r1) (fun _ _ ⟨F2,σ2,_,_,H2,X2,q2⟩=>⟨F2,σ2,.next,rfl,H2,X1.trans X2,q2⟩) fun _ _ e=>e) hs
theorem T_named {x:Str} {p pos:Pos} {e:Expr} {Q:SV→Sig→Prop} (h:TV c A (eval e env) σ (fun v σ1=>T1 c RU A (storeName env x) v σ1 (fun _ σ2=>Q v σ2))) :
  TV c A (eval (.NamedExpr (.Name x p) e pos) env) σ Q:=.mk fun _ _ E H =>
 wpAny_NamedExpr (h.wp H fun v s1 F1 σ1 x r1 H1 X1 q1=>wpAny_assign_Name (wpAny_mono (q1.run F1 s1 E v H1 r1) (fun _ _ ⟨F2,σ2,_,_,H2,X2,q2⟩=>⟨F2,σ2,x,r1.mono X2.fle,H2,X1.trans X2,q2⟩) fun _ _ e=>e))
theorem T_augName {x:Str} {p' pos:Pos} {op:Operator} {e:Expr} {Q:SFlow→Sig→Prop}
  (h:TV c A (loadName env x) σ (fun a σ1=>TV c A (eval e env) σ1 (fun b σ2=>T2 c VRel A (inplaceOp op) a b σ2 (fun v σ3=>T1 c RU A (storeName env x) v σ3 (fun _ σ4=>Q .next σ4))))) :
  TF c A (exec (.AugAssign (.Name x p') op e pos) env) σ Q:=.mk fun F s E H=>by
 refine wpAny_AugAssign_Name (h.wp H fun v s1 F1 σ1 x r1 H1 X1 q1=>q1.wp H1 fun u s2 F2 σ2 y r2 H2 X2 q2 =>
  wpAny_mono (q2.run F2 s2 E v u H2 (r1.mono X2.fle) r2) (fun w s3 ⟨F3,σ3,z,r3,H3,X3,q3⟩=>wpAny_mono (q3.run F3 s3 E w H3 r3) (fun _ s4 ⟨F4,σ4,_,_,H4,X4,q4⟩=>⟨F4,σ4,.next,rfl,H4,((X1.trans X2).trans X3).trans X4,q4⟩) fun _ _ e=>e) fun _ _ e=>e)
end
end Mine
end
section
namespace Mine
noncomputable def AsList (σ:Sig) (x:SV) (xs:List SV):Prop:=(∃ l,x=.ref l∧Rd σ l (.list xs))∨(∃ ds,x=.d (.list ds)∧xs=ds.map SV.d)
noncomputable def AsTup (x:SV) (xs:List SV):Prop:=∃ ds,x=.d (.tuple ds)∧xs=ds.map SV.d
theorem AsList.d {σ:Sig} {ds:List PyData}:AsList σ (.d (.list ds)) (ds.map SV.d):=.inr ⟨ds,rfl,rfl⟩
theorem AsList.ref {σ:Sig} {l:Addr} {xs:List SV} (h:σ l=some (.list xs)):AsList σ (.ref l) xs:=.inl ⟨l,rfl,.inl h⟩
theorem AsTup.d {ds:List PyData}:AsTup (.d (.tuple ds)) (ds.map SV.d):=⟨ds,rfl,rfl⟩
section
variable {c:Cfg} {A:Around} {F:FM} {σ:Sig} {s:Shared} {env:Env}
theorem AsList.get {x:SV} {xs:List SV} {v:Value} (h:AsList σ x xs) (H:St c F σ s) (r:VRel F x v):∃ l vs n,v=.ref l∧s.heap.get? l=some (listObj vs n)∧Paired (VRel F) xs vs:=by
 rcases h with ⟨l,rfl,q⟩ | ⟨ds,rfl,rfl⟩
 ·obtain ⟨_,vs,n,g,p⟩:=q.holds H
  exact ⟨l,vs,n,r,g,p⟩
 ·simp only [VRel,RD] at r
  obtain ⟨a,vs,n,e,f,r⟩:=r
  exact ⟨a,vs,n,e,H.fz _ _ f,rds_paired r⟩
theorem AsTup.get {x:SV} {xs:List SV} {v:Value} (h:AsTup x xs) (H:St c F σ s) (r:VRel F x v):∃ l vs n,v=.ref l∧s.heap.get? l=some (tupObj vs n)∧Paired (VRel F) xs vs:=by
 obtain ⟨ds,rfl,rfl⟩:=h
 simp only [VRel,RD] at r
 obtain ⟨a,vs,n,e,f,r⟩:=r
 exact ⟨a,vs,n,e,H.fz _ _ f,rds_paired r⟩
theorem T_spl_nil {pos:Pos} {Q:List SV→Sig→Prop} (h:Q [] σ):TVs c A (spliced (backTo pos (starEach [] env))) σ Q:=.mk fun F _ _ H =>
 Calls.spliced_nil ⟨F,σ,[],.nil,H,.refl ..,h⟩
theorem T_spl_cons {pos:Pos} {e:Expr} {rest:List Expr} {Q:List SV→Sig→Prop} (h:TV c A (eval e env) σ (fun x σ1=>TVs c A (spliced (backTo pos (starEach rest env))) σ1 (fun xs σ2=>Q (x :: xs) σ2)))
  (he:starEach (e :: rest) env=(false,eval e env) :: starEach rest env):TVs c A (spliced (backTo pos (starEach (e :: rest) env))) σ Q:=.mk fun F s E H=>by
 rw [he]
 refine Calls.spliced_cons (h.wp H fun v s1 F1 σ1 x r1 H1 X1 q1=>q1.wp H1 fun vs s2 F2 σ2 xs r2 H2 X2 q2=>?_)
 exact ⟨F2,σ2,x :: xs,.cons (r1.mono X2.fle) r2,H2,X1.trans X2,q2⟩
theorem star_list {l:Addr} {vs:List Value} {n:Nat} {T:String} {Q:List Value→Shared→Prop} {E:Value→Shared→Prop} (hT:T = "list"∨T = "tuple") (g:s.heap.get? l=some { cls:=.type T,data:=.seq vs.toArray n }) (hz:vs.length≤sizeLine)
  (h:∀ h',(∀ b o,s.heap.get? b=some o→h'.get? b=some o)→Q vs { s with heap:=h' }):StarOf c.M A E (.ref l) Q s:=by
 have hT':s.TypeIs (.ref l) T:=⟨_,g,rfl⟩
 have z:wpAny c.M A (collect (.ref l)) Q E s :=
  wpAny_collect_seq l hT g rfl rfl (fun h' hk=>by simpa using h h' hk) (by simpa using hz)
 unfold StarOf notIterableAtAll
 rcases hT with rfl | rfl
 ·exact wpAny_bind (wpAny_specialOf hT' PySem.F.slot_list_iter.lookup (wpAny_pure ⟨rfl,z⟩))
 ·exact wpAny_bind (wpAny_specialOf hT' PySem.F.slot_tuple_iter.lookup (wpAny_pure ⟨rfl,z⟩))
theorem star_as {x:SV} {xs:List SV} {v:Value} {Q:List Value→Shared→Prop} {E:Value→Shared→Prop} (h:AsList σ x xs∨AsTup x xs) (hz:xs.length≤1000) (H:St c F σ s) (r:VRel F x v)
  (k:∀ vs s',Paired (VRel F) xs vs→St c F σ s'→Ext F σ s F σ s'→Q vs s'):StarOf c.M A E v Q s:=by
 rcases h with h | h
 ·obtain ⟨l,vs,n,rfl,g,p⟩:=h.get H r
  refine star_list (.inl rfl) g (by rw [←p.length,sizeLine_eq];exact om95 hz) fun h' hk=>?_
  have S:=H.same (h':=h') (tk:=s.toks) hk
  exact k vs _ p S.1 S.2
 ·obtain ⟨l,vs,n,rfl,g,p⟩:=h.get H r
  refine star_list (.inr rfl) g (by rw [←p.length,sizeLine_eq];exact om95 hz) fun h' hk=>?_
  have S:=H.same (h':=h') (tk:=s.toks) hk
  exact k vs _ p S.1 S.2
theorem T_spl_star {pos p:Pos} {e:Expr} {rest:List Expr} {Q:List SV→Sig→Prop}
  (h:TV c A (eval e env) σ (fun x σ1=>∃ xs,(AsList σ1 x xs∨AsTup x xs)∧xs.length≤1000∧TVs c A (spliced (backTo pos (starEach rest env))) σ1 (fun ys σ2=>Q (xs++ys) σ2))) :
  TVs c A (spliced (backTo pos (starEach (.Starred e p :: rest) env))) σ Q:=.mk fun F s E H=>by
 refine items_star (h.wp H fun v s1 F1 σ1 x r1 H1 X1 q1=>?_)
 obtain ⟨xs,hx,hz,q⟩:=q1
 refine star_as hx hz H1 r1 fun vs s2 p2 H2 X2=>q.wp H2 fun ws s3 F3 σ3 ys r3 H3 X3 q3=>?_
 exact ⟨F3,σ3,xs++ys,paired_append (paired_mono (fun _ _=>VRel.mono X3.fle) p2) r3,H3,(X1.trans X2).trans X3,q3⟩
noncomputable abbrev RA (F:FM) (xs:List SV) (a:Args):Prop:=a.kw=[]∧Paired (VRel F) xs a.pos
noncomputable def TArgs (c:Cfg) (A:Around) (f:Value) (args:List Expr) (pos:Pos) (env:Env) (σ:Sig) (Q:List SV→Sig→Prop):Prop :=
 TG c RA A (evalArgs f true (backTo pos (starEach args env)) []) σ Q
theorem TA_nil {f:Value} {pos:Pos} {Q:List SV→Sig→Prop} (h:Q [] σ):TArgs c A f [] pos env σ Q:=.mk fun F _ _ H=>evalArgs_nil3 ⟨F,σ,[],⟨rfl,.nil⟩,H,.refl ..,h⟩
theorem TA_cons {f:Value} {pos:Pos} {e:Expr} {rest:List Expr} {Q:List SV→Sig→Prop} (h:TVs c A (spliced (backTo pos (starEach (e :: rest) env))) σ Q) (he:starEach (e :: rest) env=(false,eval e env) :: starEach rest env) :
  TArgs c A f (e :: rest) pos env σ Q:=.mk fun F s E H=>by
 have h':=h.run F s E H
 rw [he] at h' ⊢
 exact evalArgs_plain (wpAny_mono h' (fun vs s' ⟨F',σ',x,r,H',X,q⟩=>⟨F',σ',x,⟨rfl,r⟩,H',X,q⟩) fun _ _ e=>e)
theorem TA_star {f:Value} {pos p:Pos} {e:Expr} {Q:List SV→Sig→Prop} (h:TV c A (eval e env) σ (fun x σ1=>∃ xs,(AsList σ1 x xs∨AsTup x xs)∧xs.length≤1000∧Q xs σ1)) :
  TArgs c A f [.Starred e p] pos env σ Q:=.mk fun F s E H =>
 ks_lone (h.wp H fun v s1 F1 σ1 x r1 H1 X1 q1=>by
  obtain ⟨xs,hx,hz,q⟩:=q1
  exact star_as hx hz H1 r1 fun vs s2 p2 H2 X2=>⟨F1,σ1,xs,⟨rfl,p2⟩,H2,X1.trans X2,q⟩)
noncomputable def CallT (c:Cfg) (A:Around) (f:Value) (xs:List SV) (σ:Sig) (Q:SV→Sig→Prop):Prop:=TL c VRel A (fun vs=>call f vs []) xs σ Q
theorem callWith_any {M:Model} {E:Value→Shared→Prop} {f:Value} {first:List Value} {pos:Pos} {args:List (Bool×Sem Value)} {Q:Value→Shared→Prop} {P:Heap→Prop} (hk:∀ h,P h→∃ k,Looks M h (keeperOf f) k)
  (h:wpAny M A (evalArgs f true args []) (fun a s₁=>P s₁.heap∧wpAny M A (call f (first++a.pos) a.kw) Q E s₁) E s):wpAny M A (callWith pos f first args []) Q E s:=by
 unfold callWith
 refine wpAny_bind (wpAny_holding (wpAny_mono h (fun a s₁ h₁=>wpAny_bind (wpAny_standAt ?_)) fun _ _ x=>x))
 obtain ⟨k,L⟩:=hk _ h₁.1
 refine wpAny_bind (L.here ?_)
 have tail:∀ {t:Sem Value},wpAny M A t Q E s₁→wpAny M A (t >>= fun r=>holding [r] point >>= fun _=>pure r) Q E s₁ :=
  fun ht=>wpAny_bind (wpAny_mono ht (fun r s₂ hr=>wpAny_bind (wpAny_holding (wpAny_point (wpAny_pure hr)))) fun _ _ x=>x)
 have marked (mk:Value):wpAny M A (callMarked mk f (first++a.pos) a.kw) Q E s₁:=by unfold callMarked;exact Calls.wpAny_keep h₁.2
 have oper:∀ vs,wpAny M A (operate vs (call f (first++a.pos) a.kw)) Q E s₁:=fun vs=>wpAny_operating h₁.2
 cases hb:(args.any (·.1) || (([]:List (Option Str×Sem Value)).any (·.1.isNone))) <;> cases k <;> dsimp only <;>
  first | exact tail h₁.2 | exact tail (marked _) | exact tail (oper _) | (split <;> first | exact tail h₁.2 | exact tail (marked _))
noncomputable def Kept (c:Cfg) (f:Value):Prop:=∀ h:Heap,c.K.In h→∃ k,Looks c.M h (keeperOf f) k
theorem kept_builtin (i:String):Kept c (.builtin i):=fun _ _=>⟨.machine,Looks.of_pure rfl⟩
theorem kept_type (i:String):Kept c (.type i):=fun _ _=>⟨.machine,Looks.of_pure rfl⟩
theorem kept_K {f:Value} (h:keepIn c.K f=true):Kept c f:=fun _ X=>let ⟨k,_,L⟩:=keeps_K h _ X;⟨k,L⟩
theorem T_callWith {f:Value} {pos:Pos} {args:List Expr} {first:List SV} {vf:List Value} {Q:SV→Sig→Prop} {E:Value→Shared→Prop} (hk:Kept c f) (H:St c F σ s) (hf:Paired (VRel F) first vf)
  (h:TArgs c A f args pos env σ (fun xs σ1=>CallT c A f (first++xs) σ1 Q)):wpAny c.M A (callWith pos f vf (backTo pos (starEach args env)) []) (Post c VRel F σ s Q) E s:=by
 refine callWith_any (P:=c.K.In) hk (h.wp H fun a s1 F1 σ1 xs r1 H1 X1 q1=>⟨H1.kin,?_⟩)
 obtain ⟨e,r⟩:=r1
 rw [e]
 exact wpAny_mono (q1.run F1 s1 E _ H1 (paired_append (paired_mono (fun _ _=>VRel.mono X1.fle) hf) r)) (fun _ _ p=>p.lift X1) fun _ _ e=>e
theorem T_callName {n:Str} {p pos:Pos} {args:List Expr} {Q:SV→Sig→Prop} (h:TV c A (eval (.Name n p) env) σ (fun f σ1=>∃ fv,f=.lit fv∧Kept c fv∧TArgs c A fv args pos env σ1 (fun xs σ2=>CallT c A fv xs σ2 Q))) :
  TV c A (eval (.Call (.Name n p) args [] pos) env) σ Q:=.mk fun F s E H =>
 wpAny_Call_NameR (h.wp H fun v s1 F1 σ1 x r1 H1 X1 q1=>by
  obtain ⟨fv,rfl,hk,q⟩:=q1
  have:v=fv:=r1
  subst this
  exact wpAny_mono (T_callWith (first:=[]) (vf:=[]) hk H1 .nil q) (fun _ _ p=>p.lift X1) fun _ _ e=>e)
theorem T_meth {o:Expr} {name:Str} {apos pos:Pos} {args:List Expr} {T id:String} {Q:SV→Sig→Prop}
  (h:TV c A (eval o env) σ (fun x σ1=>(∀ F s v,St c F σ1 s→VRel F x v→s.TypeIs v T∧∀ a,v=.ref a→∃ ob,s.heap.get? a=some ob∧ob.dict=none)∧TArgs c A (.builtin id) args pos env σ1 (fun xs σ2=>CallT c A (.builtin id) (x :: xs) σ2 Q)))
  (pa:PlainAttrs T) (slot:Slot T name id) (hty:typeOf (.builtin id)=pure (.type "method_descriptor"))
  (hbase:attributeBase o name env (eval o env)=eval o env)
  (hfew:((backTo pos (starEach args env)).all (fun x=>!x.1) && (backToKw pos (keywordEach [] env)).all (fun x=>x.1.isSome) && decide (args.length+([]:List Keyword).length+(if ([]:List Keyword).isEmpty then 0 else 1) < 30))=true)
  (hline:(apos.endLine == pos.line)=true):TV c A (eval (.Call (.Attribute o name apos) args [] pos) env) σ Q:=.mk fun F s E H =>
 wpAny_Call_method hbase hfew hline pa slot hty (h.wp H fun v s1 F1 σ1 x r1 H1 X1 q1=>by
  obtain ⟨ht,q⟩:=q1
  obtain ⟨t1,t2⟩:=ht F1 s1 v H1 r1
  exact ⟨t1,t2,wpAny_mono (T_callWith (first:=[x]) (vf:=[v]) (kept_builtin id) H1 (.cons r1 .nil) q) (fun _ _ p=>p.lift X1) fun _ _ e=>e⟩)
theorem type_list {x:SV} {xs:List SV} (h:AsList σ x xs):∀ F s v,St c F σ s→VRel F x v→s.TypeIs v "list"∧∀ a,v=.ref a→∃ ob,s.heap.get? a=some ob∧ob.dict=none:=fun F s v H r=>by
 obtain ⟨l,vs,n,rfl,g,_⟩:=h.get H r
 exact ⟨⟨_,g,rfl⟩,fun a e=>by cases e;exact ⟨_,g,rfl⟩⟩
end
end Mine
end
section
namespace Mine
structure Rm (n:Nat) (A:Around):Prop where
 hh:A.handled=none
 depth:A.depth+n≤900
 units:A.units+8 * n≤9000
theorem Rm.lt {n:Nat} {A:Around} (R:Rm n A):A.depth < recursionLimit:=by have:=R.depth;unfold recursionLimit;exact om168 this
theorem Rm.u {n:Nat} {A:Around} (R:Rm n A) (k:Nat) (hk:k≤800):A.units+k < cLine:=by have:=R.units;unfold cLine;exact om264 hk this
theorem Rm.deeper {n:Nat} {A:Around} (R:Rm (n+1) A) (env:Env):Rm n (A.deeper env):=⟨R.hh,by have:=R.depth;show A.depth+1+n≤900;exact om164 this,by have:=R.units;show A.units+3+8 * n≤9000;exact om156 this⟩
theorem Rm.less {n m:Nat} {A:Around} (R:Rm n A) (h:m≤n):Rm m A:=⟨R.hh,by have:=R.depth;exact om266 h this,by have:=R.units;exact om265 h this⟩
theorem rd_int {F:FM} {i:Int} {v:Value} (h:VRel F (.d (.int i)) v):∃ t,v=.int i t:=by simpa only [VRel,RD] using h
theorem rd_str {F:FM} {i:Str} {v:Value} (h:VRel F (.d (.str i)) v):∃ t,v=.str i t:=by simpa only [VRel,RD] using h
theorem rd_bool {F:FM} {i:Bool} {v:Value} (h:VRel F (.d (.bool i)) v):v=.bool i:=by simpa only [VRel,RD] using h
theorem rd_none {F:FM} {v:Value} (h:VRel F (.d .none) v):v=.none:=by simpa only [VRel,RD] using h
theorem rel_int {F:FM} (i:Int) (t:Tok):VRel F (.d (.int i)) (.int i t):=by simp only [VRel,RD];exact ⟨t,rfl⟩
theorem rel_str {F:FM} (i:Str) (t:Tok):VRel F (.d (.str i)) (.str i t):=by simp only [VRel,RD];exact ⟨t,rfl⟩
theorem rel_bool {F:FM} (i:Bool):VRel F (.d (.bool i)) (.bool i):=by simp only [VRel,RD]
theorem rel_none {F:FM}:VRel F (.d .none) .none:=by simp only [VRel,RD]
section
variable {c:Cfg} {A:Around} {F:FM} {σ:Sig} {s:Shared} {env:Env} {Q:SV→Sig→Prop}
theorem post_int (H:St c F σ s) (i:Int) (t tk:Tok) (h:Q (.d (.int i)) σ):Post c VRel F σ s Q (.int i t) { s with toks:=tk } :=
 let S:=H.tok tk;⟨F,σ,.d (.int i),rel_int i t,S.1,S.2,h⟩
theorem post_bool (H:St c F σ s) (b:Bool) (h:Q (.d (.bool b)) σ):Post c VRel F σ s Q (.bool b) s:=⟨F,σ,.d (.bool b),rel_bool b,H,.refl ..,h⟩
theorem post_boolT (H:St c F σ s) (b:Bool) (tk:Tok) (h:Q (.d (.bool b)) σ):Post c VRel F σ s Q (.bool b) { s with toks:=tk } :=
 let S:=H.tok tk;⟨F,σ,.d (.bool b),rel_bool b,S.1,S.2,h⟩
theorem O_add {a b:Int} (h:Q (.d (.int (a+b))) σ):T2 c VRel A (binaryOp .Add) (.d (.int a)) (.d (.int b)) σ Q:=.mk fun F s E v u H r1 r2=>by
 obtain ⟨t,rfl⟩:=rd_int r1;obtain ⟨t',rfl⟩:=rd_int r2
 exact wpAny_add_int (post_int H _ _ _ h)
theorem O_iadd {a b:Int} (h:Q (.d (.int (a+b))) σ):T2 c VRel A (inplaceOp .Add) (.d (.int a)) (.d (.int b)) σ Q:=.mk fun F s E v u H r1 r2=>by
 obtain ⟨t,rfl⟩:=rd_int r1;obtain ⟨t',rfl⟩:=rd_int r2
 exact wpAny_iadd_int (post_int H _ _ _ h)
theorem O_sub {a b:Int} (h:Q (.d (.int (a - b))) σ):T2 c VRel A (binaryOp .Sub) (.d (.int a)) (.d (.int b)) σ Q:=.mk fun F s E v u H r1 r2=>by
 obtain ⟨t,rfl⟩:=rd_int r1;obtain ⟨t',rfl⟩:=rd_int r2
 exact sub_int (post_int H _ _ _ h)
theorem O_mul {a b:Int} (h:Q (.d (.int (a * b))) σ) (ok:IntMulOk a b):T2 c VRel A (binaryOp .Mult) (.d (.int a)) (.d (.int b)) σ Q:=.mk fun F s E v u H r1 r2=>by
 obtain ⟨t,rfl⟩:=rd_int r1;obtain ⟨t',rfl⟩:=rd_int r2
 exact mul_int (post_int H _ _ _ h) ok
theorem O_mod {a b:Int} (hb:b≠0) (h:Q (.d (.int (a.fmod b))) σ):T2 c VRel A (binaryOp .Mod) (.d (.int a)) (.d (.int b)) σ Q:=.mk fun F s E v u H r1 r2=>by
 obtain ⟨t,rfl⟩:=rd_int r1;obtain ⟨t',rfl⟩:=rd_int r2
 exact mod_int' hb (post_int H _ _ _ h)
theorem O_div {a b:Int} (hb:b≠0) (hp:Builtin.divisionGoesByPylong a b=false) (h:Q (.d (.int (a.fdiv b))) σ):T2 c VRel A (binaryOp .FloorDiv) (.d (.int a)) (.d (.int b)) σ Q:=.mk fun F s E v u H r1 r2=>by
 obtain ⟨t,rfl⟩:=rd_int r1;obtain ⟨t',rfl⟩:=rd_int r2
 exact floordiv_int hb (post_int H _ _ _ h) (.inl hp)
theorem O_neg {a:Int} (h:Q (.d (.int (-a))) σ):T1 c VRel A (unaryOp .USub) (.d (.int a)) σ Q:=.mk fun F s E v H r1=>by
 obtain ⟨t,rfl⟩:=rd_int r1
 exact neg_int (post_int H _ _ _ h)
theorem O_eqI {a b:Int} (h:Q (.d (.bool (a == b))) σ):T2 c VRel A (compareOp .Eq) (.d (.int a)) (.d (.int b)) σ Q:=.mk fun F s E v u H r1 r2=>by
 obtain ⟨t,rfl⟩:=rd_int r1;obtain ⟨t',rfl⟩:=rd_int r2
 exact eq_int (post_bool H _ h)
theorem O_neI {a b:Int} (h:Q (.d (.bool (a != b))) σ):T2 c VRel A (compareOp .NotEq) (.d (.int a)) (.d (.int b)) σ Q:=.mk fun F s E v u H r1 r2=>by
 obtain ⟨t,rfl⟩:=rd_int r1;obtain ⟨t',rfl⟩:=rd_int r2
 exact ne_int (post_bool H _ h)
theorem O_ltI {a b:Int} (h:Q (.d (.bool (decide (a < b)))) σ):T2 c VRel A (compareOp .Lt) (.d (.int a)) (.d (.int b)) σ Q:=.mk fun F s E v u H r1 r2=>by
 obtain ⟨t,rfl⟩:=rd_int r1;obtain ⟨t',rfl⟩:=rd_int r2
 exact lt_int (post_bool H _ h)
theorem O_geI {a b:Int} (h:Q (.d (.bool (decide (b≤a)))) σ):T2 c VRel A (compareOp .GtE) (.d (.int a)) (.d (.int b)) σ Q:=.mk fun F s E v u H r1 r2=>by
 obtain ⟨t,rfl⟩:=rd_int r1;obtain ⟨t',rfl⟩:=rd_int r2
 exact ge_int (post_bool H _ h)
theorem rds_frozen:∀ {ds:List PyData} {vs:List Value},Paired (VRel F) (ds.map SV.d) vs→RDs F ds vs:=rds_of_paired
theorem T_list {elts:List Expr} {pos:Pos} (h:TVs c A (spliced (backTo pos (starEach elts env))) σ (fun xs σ1=>xs.length≤1000∧∀ a,σ1 a=none→Q (.ref a) (upd σ1 a (some (.list xs))))):TV c A (eval (.List elts pos) env) σ Q:=.mk fun F s E H =>
 wpAny_List_spliced (h.wp H fun vs s1 F1 σ1 xs r1 H1 X1 q1=>by
  have hf:=get_fresh s1.heap (Nat.le_refl _)
  have S:=H1.new (o:=.list xs) (h':=s1.heap.push (listObj vs 0)) (tk:=s1.toks) hf (fun b o e=>Heap.get?_push_of_some _ e) ⟨vs,0,Heap.get?_push_size _ rfl,r1⟩
  refine ⟨by rw [←r1.length,sizeLine_eq];have:=q1.1;omega,F1,_,.ref s1.heap.objs.size,rfl,S.1,X1.trans S.2,q1.2 _ ?_⟩
  cases e:σ1 s1.heap.objs.size with
  | none=>rfl
  | some o=>exact absurd (H1.lt e) (Nat.lt_irrefl _))
inductive ListQ (Q:SV→Sig→Prop) (xs:List SV) (σ1:Sig):Prop
 | mk (ds:List PyData) (e:xs=ds.map SV.d) (l:ds.length≤1000) (q:Q (.d (.list ds)) σ1):ListQ Q xs σ1
inductive TupQ (Q:SV→Sig→Prop) (xs:List SV) (σ1:Sig):Prop
 | mk (ds:List PyData) (e:xs=ds.map SV.d) (l:ds.length≤1000) (q:Q (.d (.tuple ds)) σ1):TupQ Q xs σ1
theorem T_listF {elts:List Expr} {pos:Pos} (h:TVs c A (spliced (backTo pos (starEach elts env))) σ (ListQ Q)):TV c A (eval (.List elts pos) env) σ Q:=.mk fun F s E H =>
 wpAny_List_spliced (h.wp H fun vs s1 F1 σ1 xs r1 H1 X1 q1=>by
  obtain ⟨ds,rfl,hz,q⟩:=q1
  have hf:=get_fresh s1.heap (Nat.le_refl _)
  obtain ⟨l,S1,S2⟩:=H1.newF (h':=s1.heap.push (listObj vs 0)) (tk:=s1.toks) hf (fun b o e=>Heap.get?_push_of_some _ e) (Heap.get?_push_size _ rfl)
  refine ⟨by rw [←r1.length,sizeLine_eq,List.length_map];exact om95 hz,_,σ1,.d (.list ds),?_,S1,X1.trans S2,q⟩
  simp only [VRel,RD]
  exact ⟨_,vs,0,rfl,updF_self ..,(rds_frozen r1).mono l⟩)
theorem T_tupF {elts:List Expr} {k:Nat} {pos:Pos} (h:TVs c A (spliced (backTo pos (starEach elts env))) σ (TupQ Q)):TV c A (eval (.Tuple elts k pos) env) σ Q:=.mk fun F s E H =>
 wpAny_Tuple_spliced (h.wp H fun vs s1 F1 σ1 xs r1 H1 X1 q1=>by
  obtain ⟨ds,rfl,hz,q⟩:=q1
  have hf:=get_fresh s1.heap (Nat.le_refl _)
  obtain ⟨l,S1,S2⟩:=H1.newF (h':=s1.heap.push (tupObj vs 0)) (tk:=s1.toks) hf (fun b o e=>Heap.get?_push_of_some _ e) (Heap.get?_push_size _ rfl)
  refine ⟨by rw [←r1.length,sizeLine_eq,List.length_map];exact om95 hz,_,σ1,.d (.tuple ds),?_,S1,X1.trans S2,q⟩
  simp only [VRel,RD]
  exact ⟨_,vs,0,rfl,updF_self ..,(rds_frozen r1).mono l⟩)
theorem TG.freeze {α β:Type} {Rv:FM→β→α→Prop} {t:Sem α} {Q:β→Sig→Prop} {a:Addr} {ds:List PyData} (ha:σ a=some (.list (ds.map SV.d)))
  (h:∀ F s E,St c F (upd σ a none) s→RD F (.list ds) (.ref a)→wpAny c.M A t (Post c Rv F (upd σ a none) s Q) E s):TG c Rv A t σ Q:=.mk fun F s E H =>
 let ⟨F',r,H',X⟩:=H.freeze ha;wpAny_mono (h F' s E H' r) (fun _ _ p=>p.lift X) fun _ _ e=>e
theorem isL {l:Addr} {vs:List Value} {n:Nat} (g:s.heap.get? l=some (listObj vs n)):s.heap.IsList l vs.toArray:=⟨_,g,rfl,n,rfl⟩
theorem isTu {l:Addr} {vs:List Value} {n:Nat} (g:s.heap.get? l=some (tupObj vs n)):s.heap.IsTuple l vs.toArray:=⟨_,g,rfl,n,rfl⟩
theorem isTup' {l:Addr} {vs:List Value} {n:Nat} (g:s.heap.get? l=some (tupObj vs n)):IsTup s.heap l vs.toArray:=⟨_,g,rfl,n,rfl⟩
theorem O_append {l:Addr} {xs:List SV} {x:SV} (ha:σ l=some (.list xs)) (hz:xs.length≤1000) (h:Q (.d .none) (upd σ l (some (.list (xs++[x]))))):CallT c A (.builtin "list.append") [.ref l,x] σ Q:=.mk fun F s E vs H r=>by
 cases r with
 | cons r1 r =>
 cases r with
 | cons r2 r =>
 cases r
 rename_i v u
 have:v=.ref l:=r1
 subst this
 obtain ⟨_,ws,n,g,p⟩:=H.tr l _ ha
 refine wpAny_list_append_plain ⟨n,g⟩ (fun h' hl hs=>?_) (by rw [List.size_toArray,←p.length,sizeLine_eq];exact om95 hz)
 obtain ⟨n',g'⟩:=hl
 have S:=H.set (o:=.list (xs++[x])) (h':=h') (tk:=s.toks) ha (fun b o hb e=>(hs.2 b hb).trans e) ⟨ws++[u],n',by rw [g'];simp,paired_append p (.cons r2 .nil)⟩
 exact ⟨F,_,.d .none,rel_none,S.1,S.2,h⟩
theorem mapSeq_list (f:Array Value→Array Value) (vs:List Value) (n:Nat):∃ n',Obj.mapSeq f (listObj vs n)=listObj (f vs.toArray).toList n':=by
 simp only [Obj.mapSeq,listObj]
 split
 ·exact ⟨n,by simp⟩
 ·exact ⟨n+1,by simp⟩
theorem list_update {l:Addr} {vs:List Value} {n:Nat} (g:s.heap.get? l=some (listObj vs n)) (f:Array Value→Array Value):∃ n',(s.heap.update l (Obj.mapSeq f)).get? l=some (listObj (f vs.toArray).toList n'):=by
 obtain ⟨n',e⟩:=mapSeq_list f vs n
 exact ⟨n',by rw [Heap.get?_update_self _ g (by rw [e];rfl),e]⟩
theorem O_clear {l:Addr} {xs:List SV} (ha:σ l=some (.list xs)) (hz:xs.length≤1000) (h:Q (.d .none) (upd σ l (some (.list [])))):CallT c A (.builtin "list.clear") [.ref l] σ Q:=.mk fun F s E vs H r=>by
 cases r with
 | cons r1 r =>
 cases r
 rename_i v
 have:v=.ref l:=r1
 subst this
 obtain ⟨_,ws,n,g,p⟩:=H.tr l _ ha
 refine call_meets PySem.F.slot_list_clear ⟨_,g,rfl⟩ PySem.F.entry_list_clear (PySem.F.args_list_clear_1 _) (AutoSeq1.list_clear_list_0 l ws.toArray n (by rw [List.size_toArray,←p.length,sizeLine_eq];exact om95 hz)) ⟨g,?_⟩
 obtain ⟨n',g'⟩:=list_update g (fun _=>#[])
 have S:=H.set (o:=.list []) (h':=s.heap.update l (Obj.mapSeq fun _=>#[])) (tk:=s.toks) ha (fun b o hb e=>(Heap.get?_update_other _ _ (Ne.symm hb)).trans e) ⟨[],n',by rw [g'],.nil⟩
 exact ⟨F,_,.d .none,rel_none,S.1,S.2,h⟩
theorem O_pop {l:Addr} {xs:List SV} {x:SV} (ha:σ l=some (.list (xs++[x]))) (hz:xs.length≤1000) (h:Q x (upd σ l (some (.list xs)))):CallT c A (.builtin "list.pop") [.ref l] σ Q:=.mk fun F s E vs H r=>by
 cases r with
 | cons r1 r =>
 cases r
 rename_i v
 have:v=.ref l:=r1
 subst this
 obtain ⟨_,ws,n,g,p⟩:=H.tr l _ ha
 have hlen:=p.length
 rw [List.length_append,List.length_singleton] at hlen
 obtain ⟨y,hy,ry⟩:=paired_get p (i:=xs.length) (x:=x) (by simp)
 have p2:=paired_take xs.length p
 rw [List.take_left] at p2
 refine call_meets PySem.F.slot_list_pop ⟨_,g,rfl⟩ PySem.F.entry_list_pop (PySem.F.args_list_pop_1 _) (MeetsSeq.list_pop_last l ws.toArray n y (by rw [List.size_toArray,←hlen];simpa using hy) (by rw [List.size_toArray,←hlen,sizeLine_eq];exact om192 hz hlen)) ⟨g,?_⟩
 obtain ⟨n',g'⟩:=list_update g (fun xs=>xs.eraseIdxIfInBounds (ws.toArray.size - 1))
 have e:(ws.toArray.eraseIdxIfInBounds (ws.toArray.size - 1)).toList=ws.take xs.length:=by
  rw [Array.eraseIdxIfInBounds,dif_pos (by rw [List.size_toArray];exact om217 hz hlen)]
  simp only [List.size_toArray,←hlen,Nat.add_sub_cancel,Array.toList_eraseIdx,List.toList_toArray]
  rw [List.eraseIdx_eq_take_drop_succ,List.drop_of_length_le (om170 hlen),List.append_nil]
 rw [e] at g'
 have S:=H.set (o:=.list xs) (h':=s.heap.update l (Obj.mapSeq fun xs=>xs.eraseIdxIfInBounds (ws.toArray.size - 1))) (tk:=s.toks) ha (fun b o hb e=>(Heap.get?_update_other _ _ (Ne.symm hb)).trans e) ⟨_,n',g',p2⟩
 exact ⟨F,_,x,ry,S.1,S.2,h⟩
theorem O_len {x:SV} {xs:List SV} (hx:AsList σ x xs) (hz:xs.length≤1000) (h:Q (.d (.int xs.length)) σ):CallT c A (.builtin "len") [x] σ Q:=.mk fun F s E vs H r=>by
 cases r with
 | cons r1 r =>
 cases r
 obtain ⟨l,ws,n,rfl,g,p⟩:=hx.get H r1
 refine call_len_list (isL g) (by rw [List.size_toArray,←p.length];exact om94 hz) ?_
 rw [List.size_toArray,←p.length]
 exact post_int H _ _ _ h
theorem O_lenT {x:SV} {xs:List SV} (hx:AsTup x xs) (hz:xs.length≤1000) (h:Q (.d (.int xs.length)) σ):CallT c A (.builtin "len") [x] σ Q:=.mk fun F s E vs H r=>by
 cases r with
 | cons r1 r =>
 cases r
 obtain ⟨l,ws,n,rfl,g,p⟩:=hx.get H r1
 refine len_tuple (isTup' g) (by rw [List.size_toArray,←p.length];exact om94 hz) ?_
 rw [List.size_toArray,←p.length]
 exact post_int H _ _ _ h
end
end Mine
end
section
namespace Mine
mutual
theorem RD.reads {F:FM} {h:Heap} (fz:∀ a o,F a=some o→h.get? a=some o):∀ {d:PyData} {v:Value},RD F d v→∃ as,Reads h v d as
 | .none,_,r=>by simp only [RD] at r;subst r;exact ⟨_,.none⟩
 | .bool _,_,r=>by simp only [RD] at r;subst r;exact ⟨_,.bool _⟩
 | .int _,_,r=>by simp only [RD] at r;obtain ⟨t,rfl⟩:=r;exact ⟨_,.int _ _⟩
 | .str _,_,r=>by simp only [RD] at r;obtain ⟨t,rfl⟩:=r;exact ⟨_,.str _ _⟩
 | .list xs,_,r=>by
  simp only [RD] at r
  obtain ⟨a,vs,n,rfl,f,r⟩:=r
  obtain ⟨as,q⟩:=RDs.reads fz r
  exact ⟨_,.list (fz _ _ f) rfl rfl (by simpa using q)⟩
 | .tuple xs,_,r=>by
  simp only [RD] at r
  obtain ⟨a,vs,n,rfl,f,r⟩:=r
  obtain ⟨as,q⟩:=RDs.reads fz r
  exact ⟨_,.tuple (fz _ _ f) rfl rfl (by simpa using q)⟩
 | .dict _,_,r=>by simp only [RD] at r
theorem RDs.reads {F:FM} {h:Heap} (fz:∀ a o,F a=some o→h.get? a=some o):∀ {ds:List PyData} {vs:List Value},RDs F ds vs→∃ as,ReadsAll h vs ds as
 | [],_,r=>by simp only [RDs] at r;subst r;exact ⟨_,.nil⟩
 | x :: xs,_,r=>by
  simp only [RDs] at r
  obtain ⟨v,vs,rfl,a,b⟩:=r
  obtain ⟨as,p⟩:=RD.reads fz a
  obtain ⟨bs,q⟩:=RDs.reads fz b
  exact ⟨_,.cons p q⟩
end
noncomputable abbrev intsL (ns:List Int):List SV:=ns.map fun n=>SV.d (.int n)
noncomputable abbrev strsL (ns:List Str):List SV:=ns.map fun n=>SV.d (.str n)
noncomputable def isI (k:Int):Value→Bool
 | .int i _=>i == k
 | _=>false
noncomputable def isS (k:Str):Value→Bool
 | .str i _=>i == k
 | _=>false
theorem any_ints {F:FM} (k:Int):∀ {ns:List Int} {vs:List Value},Paired (VRel F) (intsL ns) vs→vs.any (isI k)=ns.any (· == k)
 | [],_,h=>by cases h;rfl
 | n :: r,_,h=>by
  cases h with
  | cons a b=>obtain ⟨t,rfl⟩:=rd_int a;simp [isI,any_ints k b]
theorem any_strs {F:FM} (k:Str):∀ {ns:List Str} {vs:List Value},Paired (VRel F) (strsL ns) vs→vs.any (isS k)=ns.any (· == k)
 | [],_,h=>by cases h;rfl
 | n :: r,_,h=>by
  cases h with
  | cons a b=>obtain ⟨t,rfl⟩:=rd_str a;simp [isS,any_strs k b]
theorem all_ints {F:FM}:∀ {ns:List Int} {vs:List Value},Paired (VRel F) (intsL ns) vs→∀ v∈vs,∃ i t,v=.int i t
 | [],_,h,v,hv=>by cases h;cases hv
 | n :: r,_,h,v,hv=>by
  cases h with
  | cons a b =>
   rcases List.mem_cons.mp hv with rfl | hv
   ·obtain ⟨t,rfl⟩:=rd_int a;exact ⟨_,_,rfl⟩
   ·exact all_ints b v hv
theorem all_strs {F:FM}:∀ {ns:List Str} {vs:List Value},Paired (VRel F) (strsL ns) vs→∀ v∈vs,∃ i t,v=.str i t
 | [],_,h,v,hv=>by cases h;cases hv
 | n :: r,_,h,v,hv=>by
  cases h with
  | cons a b =>
   rcases List.mem_cons.mp hv with rfl | hv
   ·obtain ⟨t,rfl⟩:=rd_str a;exact ⟨_,_,rfl⟩
   ·exact all_strs b v hv
theorem ints_are {F:FM}:∀ {ns:List Int} {vs:List Value},Paired (VRel F) (intsL ns) vs→IntsAre vs ns
 | [],_,h=>by cases h;exact .nil
 | n :: r,_,h=>by
  cases h with
  | cons a b=>obtain ⟨t,rfl⟩:=rd_int a;exact .cons _ _ (ints_are b)
theorem ints_of {F:FM} {ns:List Int} {vs:List Value} (h:IntsAre vs ns):Paired (VRel F) (intsL ns) vs:=by
 induction h with
 | nil=>exact .nil
 | cons n t _ ih=>exact .cons (rel_int n t) ih
section
variable {c:Cfg} {A:Around} {F:FM} {σ:Sig} {s:Shared} {env:Env} {Q:SV→Sig→Prop}
theorem T_sub {value slice:Expr} {pos:Pos} (T id:String)
  (h:TV c A (eval value env) σ (fun x σ1=>TV c A (eval slice env) σ1 (fun y σ2=>(∀ F s v,St c F σ2 s→VRel F x v→s.TypeIs v T)∧T2 c VRel A getItem x y σ2 Q)))
  (hl:typeLookup (.type T) "__getitem__"=pure (some (.builtin id))) (hs:∀ o i,∃ ops,subscripted slice false o i=operate ops (getItem o i)):TV c A (eval (.Subscript value slice pos) env) σ Q:=.mk fun F s E H =>
 Subscript_ (h.wp H fun v s1 F1 σ1 x r1 H1 X1 q1=>q1.wp H1 fun u s2 F2 σ2 y r2 H2 X2 q2=>by
  obtain ⟨ops,e⟩:=hs v u
  exact tail_any (q2.1 F2 s2 v H2 (r1.mono X2.fle)) hl (wpAny_mono (q2.2.run F2 s2 E v u H2 (r1.mono X2.fle) r2) (fun _ _ p=>p.lift (X1.trans X2)) fun _ _ e=>e) e)
theorem typeL {x:SV} {xs:List SV} (h:AsList σ x xs):∀ F s v,St c F σ s→VRel F x v→s.TypeIs v "list":=fun F s v H r=>(type_list h F s v H r).1
theorem typeT {x:SV} {xs:List SV} (h:AsTup x xs):∀ F s v,St c F σ s→VRel F x v→s.TypeIs v "tuple":=fun F s v H r=>by
 obtain ⟨l,vs,n,rfl,g,_⟩:=h.get H r
 exact ⟨_,g,rfl⟩
theorem G_list {x y:SV} {xs:List SV} {k:Int} (hx:AsList σ x xs) (h0:0≤k) (hz:xs.length≤1000) (hy:xs[k.toNat]?=some y) (h:Q y σ):T2 c VRel A getItem x (.d (.int k)) σ Q:=.mk fun F s E v u H r1 r2=>by
 obtain ⟨t,rfl⟩:=rd_int r2
 obtain ⟨l,vs,n,rfl,g,p⟩:=hx.get H r1
 obtain ⟨w,hw,rw⟩:=paired_get p hy
 have:k.toNat < xs.length:=(List.getElem?_eq_some_iff.mp hy).1
 exact wpAny_getItem_list (isL g) h0 (om68 hz this) (by simpa using hw) ⟨F,σ,y,rw,H,.refl ..,h⟩
theorem G_last {x y:SV} {xs:List SV} (hx:AsList σ x (xs++[y])) (hz:xs.length≤1000) (h:Q y σ):T2 c VRel A getItem x (.d (.int (-1))) σ Q:=.mk fun F s E v u H r1 r2=>by
 obtain ⟨t,rfl⟩:=rd_int r2
 obtain ⟨l,vs,n,rfl,g,p⟩:=hx.get H r1
 obtain ⟨w,hw,rw⟩:=paired_get p (i:=xs.length) (x:=y) (by simp)
 have hlen:=p.length
 rw [List.length_append,List.length_singleton] at hlen
 refine wpAny_getItem_list_neg (isL g) (om1) (by rw [List.size_toArray];exact om216 hz hlen) (om0) (x:=w) ?_ ⟨F,σ,y,rw,H,.refl ..,h⟩
 rw [List.size_toArray,←hlen]
 have:((-1:Int)+((xs.length+1:Nat):Int)).toNat=xs.length:=by exact om191 hz hlen
 rw [this];simpa using hw
theorem G_tup {x y:SV} {xs:List SV} {k:Int} {j:Nat} (hx:AsTup x xs) (h0:-(2 ^ 63)≤k) (h1:k < 2 ^ 63) (hj:seqIndex? k xs.length=some j) (hy:xs[j]?=some y) (h:Q y σ):T2 c VRel A getItem x (.d (.int k)) σ Q:=.mk fun F s E v u H r1 r2=>by
 obtain ⟨t,rfl⟩:=rd_int r2
 obtain ⟨l,vs,n,rfl,g,p⟩:=hx.get H r1
 obtain ⟨w,hw,rw⟩:=paired_get p hy
 exact getItem_tuple (isTup' g) h0 h1 (by rw [List.size_toArray,←p.length];exact hj) (by simpa using hw) ⟨F,σ,y,rw,H,.refl ..,h⟩
noncomputable def SPart:SV→Option Int→Prop
 | .d .none,o=>o=none
 | .d (.int i),o=>o=some i
 | _,_=>False
theorem spart_is {F:FM} {x:SV} {o:Option Int} {v:Value} (h:SPart x o) (r:VRel F x v):IsPart v o:=by
 cases x with
 | d x =>
  cases x <;> simp only [SPart] at h <;> subst h
  ·obtain rfl:=rd_none r;exact .none
  ·obtain ⟨t,rfl⟩:=rd_int r;exact .int _ _
 | _=>simp only [SPart] at h
noncomputable def AsIL (σ:Sig) (x:SV) (xs:List SV):Prop:=AsList σ x xs∨∃ l,x=.ref l∧Rd σ l (.ilist xs)
theorem AsIL.get {x:SV} {xs:List SV} {v:Value} (h:AsIL σ x xs) (H:St c F σ s) (r:VRel F x v):∃ l vs,v=.ref l∧s.heap.IsList l vs.toArray∧Paired (VRel F) xs vs:=by
 rcases h with h | ⟨l,rfl,q⟩
 ·obtain ⟨l,vs,n,e,g,p⟩:=h.get H r;exact ⟨l,vs,e,isL g,p⟩
 ·obtain ⟨_,vs,g,p⟩:=q.holds H;exact ⟨l,vs,r,g,p⟩
theorem TG.toI {α β:Type} {Rv:FM→β→α→Prop} {t:Sem α} {Q:β→Sig→Prop} {a:Addr} {xs:List SV} (ha:σ a=some (.list xs)) (h:TG c Rv A t (upd σ a (some (.ilist xs))) Q):TG c Rv A t σ Q:=.mk fun F s E H=>by
 obtain ⟨_,vs,n,g,p⟩:=H.tr a _ ha
 have S:=H.set (o:=.ilist xs) (h':=s.heap) (tk:=s.toks) ha (fun _ _ _ e=>e) ⟨vs,isL g,p⟩
 exact wpAny_mono (h.run F s E S.1) (fun _ _ q=>q.lift S.2) fun _ _ e=>e
theorem typeIL {x:SV} {xs:List SV} (h:AsIL σ x xs):∀ F s v,St c F σ s→VRel F x v→s.TypeIs v "list":=fun F s v H r=>by
 obtain ⟨l,vs,rfl,⟨o,g,hc,_⟩,_⟩:=h.get H r
 exact ⟨o,g,hc⟩
theorem G_il {x y:SV} {xs:List SV} {k:Int} (hx:AsIL σ x xs) (h0:0≤k) (hz:xs.length≤1000) (hy:xs[k.toNat]?=some y) (h:Q y σ):T2 c VRel A getItem x (.d (.int k)) σ Q:=.mk fun F s E v u H r1 r2=>by
 obtain ⟨t,rfl⟩:=rd_int r2
 obtain ⟨l,vs,rfl,g,p⟩:=hx.get H r1
 obtain ⟨w,hw,rw⟩:=paired_get p hy
 have:k.toNat < xs.length:=(List.getElem?_eq_some_iff.mp hy).1
 exact wpAny_getItem_list g h0 (om68 hz this) (by simpa using hw) ⟨F,σ,y,rw,H,.refl ..,h⟩
theorem S_il {l:Addr} {y:SV} {xs:List SV} {k:Int} {Q:Sig→Prop} (ha:σ l=some (.ilist xs)) (h0:0≤k) (hz:xs.length≤1000) (hk:k.toNat < xs.length) (h:Q (upd σ l (some (.ilist (xs.set k.toNat y))))) :
  T3 c RU A setItem (.ref l) (.d (.int k)) y σ (fun _ σ'=>Q σ'):=.mk fun F s E v u w H r1 r2 r3=>by
 obtain ⟨t,rfl⟩:=rd_int r2
 have:v=.ref l:=r1
 subst this
 obtain ⟨_,vs,g,p⟩:=H.tr l _ ha
 refine wpAny_setItem_list g h0 (om68 hz hk) (by rw [List.size_toArray,←p.length];exact om56 h0 hz hk) fun h' hl hs=>?_
 have e:(vs.toArray.setIfInBounds k.toNat w)=(vs.set k.toNat w).toArray:=by simp
 rw [e] at hl
 have S:=H.set (o:=.ilist (xs.set k.toNat y)) (h':=h') (tk:=s.toks) ha (fun b o hb e=>(hs.2 b hb).trans e) ⟨_,hl,paired_set r3 _ p⟩
 exact ⟨F,_,(),trivial,S.1,S.2,h⟩
structure SliceIs (lo hi:Option Int) (n:Nat) (a b:Nat):Prop where
 pick:∀ vs:List Value,vs.length=n→(slicePick vs.toArray lo hi none).toList=(vs.drop a).take b
theorem slice_from {k:Int} {n:Nat} (h0:0≤k):SliceIs (some k) none n k.toNat n:=⟨fun vs hn=>by
 obtain ⟨a,rfl⟩:=Int.eq_ofNat_of_zero_le h0
 rw [slicePick_from',Int.toNat_natCast]
 simp only [List.toList_toArray]
 rw [List.take_of_length_le (by simp;exact om239 hn h0)]⟩
theorem slice_upto {k:Int} {n:Nat} (h0:0≤k):SliceIs none (some k) n 0 k.toNat:=⟨fun vs hn=>by
 obtain ⟨a,rfl⟩:=Int.eq_ofNat_of_zero_le h0
 rw [slicePick_upto',Int.toNat_natCast]
 simp⟩
theorem slice_run {i j:Int} {n:Nat} (h0:0≤i) (h1:i≤j) (h2:j≤n):SliceIs (some i) (some j) n i.toNat (j.toNat - i.toNat):=⟨fun vs hn=>by
 obtain ⟨a,rfl⟩:=Int.eq_ofNat_of_zero_le h0
 obtain ⟨b,rfl⟩:=Int.eq_ofNat_of_zero_le (Int.le_trans h0 h1)
 rw [slicePick_run _ _ _ (by rw [List.size_toArray];exact om251 hn h2) (om150 h1)]
 simp⟩
inductive SliceQ (Q:SV→Sig→Prop) (x l u:SV) (σ3:Sig):Prop
 | mk (ds:List PyData) (lo hi:Option Int) (a b:Nat) (h1:AsIL σ3 x (ds.map SV.d)) (h2:ds.length≤1000) (h3:SPart l lo) (h4:SPart u hi) (h5:SliceIs lo hi ds.length a b) (q:Q (.d (.list ((ds.drop a).take b))) σ3):SliceQ Q x l u σ3
theorem T_slice {value:Expr} {lower upper:Option Expr} {p pos:Pos}
  (h:TV c A (eval value env) σ (fun x σ1=>TV c A (evalPart lower env) σ1 (fun l σ2=>TV c A (evalPart upper env) σ2 (SliceQ Q x l)))) (hn:∀ o r,letTemporaryGo value o r=pure ()) :
  TV c A (eval (.Subscript value (.Slice lower upper none p) pos) env) σ Q:=.mk fun F s E H=>by
 refine wpAny_Subscript_Slice (T := "list") (id := "list.__getitem__") slot_list_getitem.lookup (h.wp H fun v s1 F1 σ1 x r1 H1 X1 q1=>wpAny_Slice (q1.wp H1 fun vl s2 F2 σ2 l r2 H2 X2 q2=>q2.wp H2 fun vu s3 F3 σ3 u r3 H3 X3 q3=>?_)) hn
 obtain ⟨ds,lo,hi,a,b,hx,hz,hl,hu,hs,q⟩:=q3
 refine wpAny_pure ?_
 have rx:VRel F3 x v:=(r1.mono X2.fle).mono X3.fle
 have hk:∀ b o,s3.heap.get? b=some o→(s3.heap.push { cls:=Value.type "slice",data:=Data.fields #[vl,vu,.none] }).get? b=some o:=fun b o e=>Heap.get?_push_of_some _ e
 have S3:=H3.same (h':=s3.heap.push { cls:=Value.type "slice",data:=Data.fields #[vl,vu,.none] }) (tk:=s3.toks) hk
 refine ⟨typeIL hx F3 _ v S3.1 rx,?_⟩
 obtain ⟨la,vs,rfl,g,p⟩:=hx.get S3.1 rx
 have hlen:vs.length=ds.length:=by rw [←p.length,List.length_map]
 refine wpAny_getItem_list_slice g ⟨_,Heap.get?_push_size _ rfl,rfl,rfl⟩ (spart_is hl (r2.mono X3.fle)) (spart_is hu r3) .none (by simp) ?_ (by rw [List.size_toArray,hlen,sizeLine_eq];exact om193 hz hlen)
 have e:=hs.pick vs hlen
 have e':slicePick vs.toArray lo hi none=((vs.drop a).take b).toArray:=by rw [←e]
 rw [e']
 obtain ⟨l4,S4,X4⟩:=S3.1.newF (h':=Heap.push _ (listObj ((vs.drop a).take b) 0)) (tk:=s3.toks) (get_fresh _ (Nat.le_refl _)) (fun b o e=>Heap.get?_push_of_some _ e) (Heap.get?_push_size _ rfl)
 refine ⟨_,σ3,.d (.list ((ds.drop a).take b)),?_,S4,(((X1.trans X2).trans X3).trans S3.2).trans X4,q⟩
 simp only [VRel,RD]
 refine ⟨_,_,0,rfl,updF_self ..,(rds_of_paired ?_).mono l4⟩
 rw [List.map_take,List.map_drop]
 exact paired_take b (paired_drop a p)
theorem T_partNone (h:Q (.d .none) σ):TV c A (evalPart none env) σ Q:=.mk fun F _ _ H=>wpAny_pure ⟨F,σ,.d .none,rel_none,H,.refl ..,h⟩
theorem T_partSome {e:Expr} (h:TV c A (eval e env) σ Q):TV c A (evalPart (some e) env) σ Q:=h
theorem O_concatF {x y:SV} {ds es:List PyData} (hx:AsList σ x (ds.map SV.d)) (hy:AsList σ y (es.map SV.d)) (hz:ds.length+es.length≤1000) (h:Q (.d (.list (ds++es))) σ):T2 c VRel A (binaryOp .Add) x y σ Q:=.mk fun F s E v u H r1 r2=>by
 obtain ⟨l,vs,n,rfl,g,p⟩:=hx.get H r1
 obtain ⟨l',vs',n',rfl,g',p'⟩:=hy.get H r2
 have e1:=p.length
 have e2:=p'.length
 rw [List.length_map] at e1 e2
 refine concat_meets ⟨_,g,rfl⟩ ⟨_,g',rfl⟩ noFill_list_add seq_list_add PySem.F.slot_list_add PySem.F.entry_list_add (PySem.F.args_list_add_2 _ _) (list_addW l l' _ _ n n' none none #[] #[] (by rw [List.size_toArray,List.size_toArray,sizeLine_eq];exact om290 hz e1 e2)) ⟨g,g',?_⟩
 have e:vs.toArray++vs'.toArray=(vs++vs').toArray:=by simp
 rw [e]
 obtain ⟨l4,S4,X4⟩:=H.newF (h':=s.heap.push (listObj (vs++vs') 0)) (tk:=s.toks) (get_fresh _ (Nat.le_refl _)) (fun b o e=>Heap.get?_push_of_some _ e) (Heap.get?_push_size _ rfl)
 refine ⟨_,σ,.d (.list (ds++es)),?_,S4,X4,h⟩
 simp only [VRel,RD]
 refine ⟨_,_,0,rfl,updF_self ..,(rds_of_paired ?_).mono l4⟩
 rw [List.map_append]
 exact paired_append p p'
theorem O_inI {x:SV} {k:Int} {ns:List Int} (hx:AsList σ x (intsL ns)) (h:Q (.d (.bool (ns.any (· == k)))) σ):T2 c VRel A (compareOp .In) (.d (.int k)) x σ Q:=.mk fun F s E v u H r1 r2=>by
 obtain ⟨t,rfl⟩:=rd_int r1
 obtain ⟨l,vs,n,rfl,g,p⟩:=hx.get H r2
 refine SeqInW.in_listW (isI k) (fun y hy=>?_) (isL g) ?_
 ·obtain ⟨i,t',rfl⟩:=all_ints p y (by simpa using hy)
  exact MeetsSeq.EqGives.int _ _ _ _
 ·rw [List.any_toArray,any_ints k p];exact post_bool H _ h
theorem O_ninI {x:SV} {k:Int} {ns:List Int} (hx:AsList σ x (intsL ns)) (h:Q (.d (.bool (!ns.any (· == k)))) σ):T2 c VRel A (compareOp .NotIn) (.d (.int k)) x σ Q:=.mk fun F s E v u H r1 r2=>by
 obtain ⟨t,rfl⟩:=rd_int r1
 obtain ⟨l,vs,n,rfl,g,p⟩:=hx.get H r2
 refine SeqInW.notIn_listW (isI k) (fun y hy=>?_) (isL g) ?_
 ·obtain ⟨i,t',rfl⟩:=all_ints p y (by simpa using hy)
  exact MeetsSeq.EqGives.int _ _ _ _
 ·rw [List.any_toArray,any_ints k p];exact post_bool H _ h
theorem eqS (a b:Str) (t u:Tok):MeetsSeq.EqGives (.str a t) (.str b u) (a == b):=fun _ _ _ _ _ _ h=>wpAny_eqBool_str (by
 have:decide (a=b)=(a == b):=by by_cases e:a=b <;> simp [e]
 rw [this];exact h)
theorem O_inS {x:SV} {k:Str} {ns:List Str} (hx:AsList σ x (strsL ns)) (h:Q (.d (.bool (ns.any (· == k)))) σ):T2 c VRel A (compareOp .In) (.d (.str k)) x σ Q:=.mk fun F s E v u H r1 r2=>by
 obtain ⟨t,rfl⟩:=rd_str r1
 obtain ⟨l,vs,n,rfl,g,p⟩:=hx.get H r2
 refine SeqInW.in_listW (isS k) (fun y hy=>?_) (isL g) ?_
 ·obtain ⟨i,t',rfl⟩:=all_strs p y (by simpa using hy)
  exact eqS _ _ _ _
 ·rw [List.any_toArray,any_strs k p];exact post_bool H _ h
theorem O_ninS {x:SV} {k:Str} {ns:List Str} (hx:AsList σ x (strsL ns)) (h:Q (.d (.bool (!ns.any (· == k)))) σ):T2 c VRel A (compareOp .NotIn) (.d (.str k)) x σ Q:=.mk fun F s E v u H r1 r2=>by
 obtain ⟨t,rfl⟩:=rd_str r1
 obtain ⟨l,vs,n,rfl,g,p⟩:=hx.get H r2
 refine SeqInW.notIn_listW (isS k) (fun y hy=>?_) (isL g) ?_
 ·obtain ⟨i,t',rfl⟩:=all_strs p y (by simpa using hy)
  exact eqS _ _ _ _
 ·rw [List.any_toArray,any_strs k p];exact post_bool H _ h
theorem O_inT {x y:Str} (h:Q (.d (.bool !(Builtin.Str.occurrences x y 0 x.length 1).isEmpty)) σ):T2 c VRel A (compareOp .In) (.d (.str y)) (.d (.str x)) σ Q:=.mk fun F s E v u H r1 r2=>by
 obtain ⟨t,rfl⟩:=rd_str r1
 obtain ⟨t',rfl⟩:=rd_str r2
 exact P.in_str (post_bool H _ h)
theorem O_ninT {x y:Str} (h:Q (.d (.bool (Builtin.Str.occurrences x y 0 x.length 1).isEmpty)) σ):T2 c VRel A (compareOp .NotIn) (.d (.str y)) (.d (.str x)) σ Q:=.mk fun F s E v u H r1 r2=>by
 obtain ⟨t,rfl⟩:=rd_str r1
 obtain ⟨t',rfl⟩:=rd_str r2
 refine notIn_gives (typeIs_str s x t') slot_str_contains entry_str_contains (args_str_contains _ _) (PySem.gives_str_contains x y t' t) ?_
 rw [Bool.not_not];exact post_bool H _ h
theorem O_index {x y:Str} {i:Nat} {rest:List Nat} (ho:Builtin.Str.occurrences x y 0 x.length 1=i :: rest) (h:Q (.d (.int i)) σ):CallT c A (.builtin "str.index") [.d (.str x),.d (.str y)] σ Q:=.mk fun F s E vs H r=>by
 cases r with
 | cons r1 r =>
 cases r with
 | cons r2 r =>
 cases r
 obtain ⟨t,rfl⟩:=rd_str r1
 obtain ⟨t',rfl⟩:=rd_str r2
 exact SC.index ho (post_int H _ _ _ h)
theorem O_eqD {n:Nat} {a b:PyData} (R:Rm n A) (ha:SeqAt.shaped a=true) (hb:SeqAt.shaped b=true) (h:Q (.d (.bool (a.eqv b))) σ):T2 c VRel A (compareOp .Eq) (.d a) (.d b) σ Q:=.mk fun F s E v u H r1 r2=>by
 obtain ⟨as,p⟩:=RD.reads H.fz r1
 obtain ⟨bs,q⟩:=RD.reads H.fz r2
 exact SeqAt.compareEq_shaped p q ha hb (R.u 64 (om6)) (post_bool H _ h)
theorem O_neD {n:Nat} {a b:PyData} (R:Rm n A) (ha:SeqAt.shaped a=true) (hb:SeqAt.shaped b=true) (h:Q (.d (.bool (!a.eqv b))) σ):T2 c VRel A (compareOp .NotEq) (.d a) (.d b) σ Q:=.mk fun F s E v u H r1 r2=>by
 obtain ⟨as,p⟩:=RD.reads H.fz r1
 obtain ⟨bs,q⟩:=RD.reads H.fz r2
 exact SeqAt.compareNe_shaped p q ha hb (R.u 64 (om6)) (post_bool H _ h)
theorem O_isNone {x:SV} {b:Bool} (hx:∀ F s v,St c F σ s→VRel F x v→PySem.plainIs v .none=true∧(v == .none)=b) (h:Q (.d (.bool b)) σ):T2 c VRel A (compareOp .Is) x (.d .none) σ Q:=.mk fun F s E v u H r1 r2=>by
 obtain rfl:=rd_none r2
 obtain ⟨h1,h2⟩:=hx F s v H r1
 exact wpAny_is_plain h1 (by rw [h2];exact post_bool H _ h)
theorem O_isNotNone {x:SV} {b:Bool} (hx:∀ F s v,St c F σ s→VRel F x v→PySem.plainIs v .none=true∧(v == .none)=b) (h:Q (.d (.bool (!b))) σ):T2 c VRel A (compareOp .IsNot) x (.d .none) σ Q:=.mk fun F s E v u H r1 r2=>by
 obtain rfl:=rd_none r2
 obtain ⟨h1,h2⟩:=hx F s v H r1
 exact wpAny_isNot_plain h1 (by rw [h2];exact post_bool H _ h)
theorem none_none:∀ F s v,St c F σ s→VRel F (.d .none) v→PySem.plainIs v .none=true∧(v == .none)=true:=fun F s v _ r=>by obtain rfl:=rd_none r;exact ⟨rfl,rfl⟩
theorem none_ref {a:Addr}:∀ F s v,St c F σ s→VRel F (.ref a) v→PySem.plainIs v .none=true∧(v == .none)=false:=fun F s v _ r=>by
 have:v=.ref a:=r
 subst this;exact ⟨rfl,rfl⟩
theorem none_list {ds:List PyData}:∀ F s v,St c F σ s→VRel F (.d (.list ds)) v→PySem.plainIs v .none=true∧(v == .none)=false:=fun F s v _ r=>by
 simp only [VRel,RD] at r
 obtain ⟨a,vs,n,rfl,_⟩:=r;exact ⟨rfl,rfl⟩
theorem truth_list {x:SV} {xs:List SV} {Q:Bool→Sig→Prop} (hx:AsList σ x xs) (hz:xs.length≤1000) (h:Q (!xs.isEmpty) σ):Truth c A x σ Q:=.mk fun F s E v H r=>by
 obtain ⟨l,vs,n,rfl,g,p⟩:=hx.get H r
 have hlen:=p.length
 refine wpAny_truthy_list (isL g) (by rw [List.size_toArray];exact om218 hz hlen) ?_
 have e:(!vs.toArray.isEmpty)=!xs.isEmpty:=by cases p <;> simp
 rw [e]
 have S:=H.tok (s.toks+1+1)
 exact ⟨F,σ,_,rfl,S.1,S.2,h⟩
theorem truth_none {Q:Bool→Sig→Prop} (h:Q false σ):Truth c A (.d .none) σ Q:=.mk fun F s E v H r=>by
 obtain rfl:=rd_none r
 exact PyProof.Rows.truthy_none ⟨F,σ,_,rfl,H,.refl ..,h⟩
end
end Mine
end
section
namespace Mine
structure Turned (c:Cfg) (wr:List Addr) (F:FM) (σ:Sig) (s:Shared) (F':FM) (s':Shared):Prop where
 st:St c F' σ s'
 le:FLe F F'
 keep:∀ b o,b∉wr→s.heap.get? b=some o→s'.heap.get? b=some o
 same:∀ b o,s.heap.get? b=some o→F' b=F b
 rest:s'={ s with heap:=s'.heap,toks:=s'.toks }
structure Itr (c:Cfg) (A:Around) (target:Expr) (I:Addr) (fp wr:List Addr) (xs:List SV) (F0:FM) (W:Nat→Heap→Prop):Prop where
 sub:∀ b∈wr,b∈fp
 frame:∀ i h h',W i h→(∀ b∈fp,∀ o,h.get? b=some o→h'.get? b=some o)→W i h'
 live:∀ i h,W i h→∀ b∈fp,∃ o,h.get? b=some o
 item:∀ i y F σ s (Q:Value→Shared→Prop) E,xs[i]?=some y→FLe F0 F→St c F σ s→(∀ b∈wr,σ b=none∧F b=none)→W i s.heap →
  (∀ F' v s',VRel F' y v→Turned c wr F σ s F' s'→W (i+1) s'.heap→Q v s') →
  wpAny c.M A (pyNext (.ref I)) (fun r s1=>∃ v,r=some v∧wpAny c.M A (letOwnedTupleGo target (.ref I) v) (fun _ s2=>Q v s2) E s1) E s
 done:∀ s (Q:Shared→Prop) E,W xs.length s.heap→(∀ h' tk,(∀ b o,b∉wr→s.heap.get? b=some o→h'.get? b=some o)→Q { s with heap:=h',toks:=tk }) →
  wpAny c.M A (pyNext (.ref I)) (fun r s'=>r=none∧Q s') E s
 self:∀ s (Q:Value→Shared→Prop) E,W 0 s.heap→Q (.ref I) s→wpAny c.M A (pyIter (.ref I)) Q E s
noncomputable def ItOf (c:Cfg) (A:Around) (target:Expr) (x:SV) (σ:Sig) (xs:List SV):Prop :=
 ∀ F s E v (Q:Value→Shared→Prop),St c F σ s→VRel F x v →
  (∀ I fp wr W h' tk,Itr c A target I fp wr xs F W→W 0 h'→(∀ b∈wr,s.heap.get? b=none)→(∀ b∈fp,b∈wr∨(Quiet (σ b)∧∃ o,s.heap.get? b=some o))→(∀ b o,s.heap.get? b=some o→h'.get? b=some o)→Q (.ref I) { s with heap:=h',toks:=tk }) →
  wpAny c.M A (pyIter v) Q E s
section
variable {c:Cfg} {A:Around} {F F' F1:FM} {σ σ' σ1:Sig} {s s' s1 s2:Shared} {env:Env} {I:Addr} {fp wr:List Addr} {xs:List SV} {W:Nat→Heap→Prop} {target:Expr}
theorem Ext.touched (X:Ext F σ s F' σ' s') (hd:∀ b∈wr,s.heap.get? b=none) (T:Turned c wr F' σ' s' F1 s2):Ext F σ s F1 σ' s2 where
 fle:=X.fle.trans T.le
 keep:=fun a o q e=>T.keep a o (fun m=>by rw [hd a m] at e;cases e) (X.keep a o q e)
 alive:=fun a o e=>by
  obtain ⟨o',e'⟩:=X.alive a o e
  exact ⟨o',T.keep a o' (fun m=>by rw [hd a m] at e;cases e) e'⟩
 prov:=fun a o e q=>by
  have p:=X.prov a o e q
  obtain ⟨o',e'⟩:=X.alive a o e
  exact ⟨p.1,(T.same a o' e').trans p.2⟩
 rest:=by rw [T.rest,X.rest]
theorem turned_of (H:St c F σ s) (hw:∀ b∈wr,σ b=none∧F b=none) {h':Heap} {tk:Nat} (hk:∀ b o,b∉wr→s.heap.get? b=some o→h'.get? b=some o):Turned c wr F σ s F { s with heap:=h',toks:=tk } where
 st:=⟨H.base,fun a o e=>hk a o (fun m=>by rw [(hw a m).2] at e;cases e) (H.fz a o e),fun a o e=>⟨(H.tr a o e).1,(H.tr a o e).2.at fun ob g=>hk a ob (fun m=>by rw [(hw a m).1] at e;cases e) g⟩⟩
 le:=.refl F
 keep:=hk
 same:=fun _ _ _=>rfl
 rest:=rfl
theorem Itr.of_walks {P:Nat→Value→Prop} {F0:FM} (K:Walks c.prog c.w A I fp wr xs.length P W) (hx:∀ i v F,FLe F0 F→i < xs.length→P i v→∃ y,xs[i]?=some y∧VRel F y v)
  (live:∀ i h,W i h→∀ b∈fp,∃ o,h.get? b=some o)
  (go:∀ i s v (Q:Unit→Shared→Prop) E,W i s.heap→P (i - 1) v→Q () s→wpAny c.M A (letOwnedTupleGo target (.ref I) v) Q E s):Itr c A target I fp wr xs F0 W where
 sub:=K.sub
 frame:=K.frame
 live:=live
 item:=fun i y F σ s Q E hy hl H hw hW h=>by
  have hi:i < xs.length:=(List.getElem?_eq_some_iff.mp hy).1
  refine K.item i s _ _ hi hW fun v h' tk hP hW' hk=>⟨v,rfl,go (i+1) _ v _ _ hW' (by simpa using hP) ?_⟩
  obtain ⟨y',e,r⟩:=hx i v F hl hi hP
  rw [hy] at e
  cases e
  exact h F v _ r (turned_of H hw hk) hW'
 done:=fun s Q E hW h=>K.done s _ _ hW fun h' tk hk=>⟨rfl,h h' tk hk⟩
 self:=fun s Q E hW h=>K.self 0 s Q E hW h
noncomputable def ForEnd (J:Sig→Prop) (Q:SFlow→Sig→Prop):SFlow→Sig→Prop
 | .next,σ=>J σ
 | .cont,σ=>J σ
 | .brk,σ=>Q .next σ
 | .ret v,σ=>Q (.ret v) σ
structure Btw (c:Cfg) (fp wr:List Addr) (W:Nat→Heap→Prop) (F1:FM) (σ1:Sig) (s1:Shared) (i:Nat) (F:FM) (σ:Sig) (s:Shared):Prop where
 st:St c F σ s
 ext:Ext F1 σ1 s1 F σ s
 at_:W i s.heap
 quiet:∀ b∈fp,Quiet (σ b)
 off:∀ b∈wr,σ b=none∧F b=none
theorem Btw.turn {F0:FM} {i:Nat} (B:Btw c fp wr W F1 σ1 s1 i F σ s) (K:Itr c A target I fp wr xs F0 W) (hd:∀ b∈wr,s1.heap.get? b=none) (T:Turned c wr F σ s F' s') (hw:W (i+1) s'.heap):Btw c fp wr W F1 σ1 s1 (i+1) F' σ s' where
 st:=T.st
 ext:=B.ext.touched hd T
 at_:=hw
 quiet:=B.quiet
 off:=fun b hb=>⟨(B.off b hb).1,by
  obtain ⟨o,e⟩:=K.live i _ B.at_ b (K.sub b hb)
  rw [T.same b o e];exact (B.off b hb).2⟩
theorem Btw.step {F0:FM} {i:Nat} (B:Btw c fp wr W F1 σ1 s1 i F σ s) (K:Itr c A target I fp wr xs F0 W) (X:Ext F σ s F' σ' s') (H:St c F' σ' s'):Btw c fp wr W F1 σ1 s1 i F' σ' s':=by
 have hp:∀ b∈fp,σ' b=σ b∧F' b=F b:=fun b hb=>let ⟨o,e⟩:=K.live i _ B.at_ b hb;X.prov b o e (B.quiet b hb)
 exact ⟨H,B.ext.trans X,K.frame i _ _ B.at_ fun b hb o e=>X.keep b o (B.quiet b hb) e,fun b hb=>by rw [(hp b hb).1];exact B.quiet b hb,fun b hb=>by rw [(hp b (K.sub b hb)).1,(hp b (K.sub b hb)).2];exact B.off b hb⟩
theorem Btw.start {F0:FM} {v0:Heap} {tk:Nat} (H:St c F σ s) (K:Itr c A target I fp wr xs F0 W) (hw:W 0 v0) (hd:∀ b∈wr,s.heap.get? b=none) (hq:∀ b∈fp,b∈wr∨(Quiet (σ b)∧∃ o,s.heap.get? b=some o))
  (hk:∀ b o,s.heap.get? b=some o→v0.get? b=some o):Btw c fp wr W F σ s 0 F σ { s with heap:=v0,toks:=tk }:=by
 have S:=H.same (h':=v0) (tk:=tk) hk
 have off:∀ b∈wr,σ b=none∧F b=none:=fun b hb=>by
  constructor
  ·cases e:σ b with
   | none=>rfl
   | some o=>obtain ⟨ob,g⟩:=(H.tr b o e).2.alive;rw [hd b hb] at g;cases g
  ·cases e:F b with
   | none=>rfl
   | some o=>have:=H.fz b o e;rw [hd b hb] at this;cases this
 exact ⟨S.1,S.2,hw,fun b hb=>(hq b hb).elim (fun m=>quiet_none (off b m).1) (·.1),off⟩
theorem Itr.next {F0:FM} {i:Nat} {y:SV} {N:Shared→Prop} {Q:Value→Shared→Prop} {E:Value→Shared→Prop} (K:Itr c A target I fp wr xs F0 W) (hy:xs[i]?=some y) (B:Btw c fp wr W F1 σ1 s1 i F σ s) (hl:FLe F0 F1) (hd:∀ b∈wr,s1.heap.get? b=none)
  (h:∀ F' v s',VRel F' y v→Btw c fp wr W F1 σ1 s1 (i+1) F' σ s'→Q v s') :
  wpAny c.M A (pyNext (.ref I)) (fun r s1=>match r with | none=>N s1 | some v=>wpAny c.M A (letOwnedTupleGo target (.ref I) v) (fun _ s2=>Q v s2) E s1) E s :=
 wpAny_mono (K.item i y F σ s Q E hy (hl.trans B.ext.fle) B.st B.off B.at_ fun F' v s' r T hw=>h F' v s' r (B.turn K hd T hw)) (fun r s' hh=>by obtain ⟨v,rfl,hh⟩:=hh;exact hh) fun _ _ e=>e
theorem Itr.over {F0:FM} {N:Shared→Prop} {S:Value→Shared→Prop} {E:Value→Shared→Prop} (K:Itr c A target I fp wr xs F0 W) (B:Btw c fp wr W F1 σ1 s1 xs.length F σ s) (hd:∀ b∈wr,s1.heap.get? b=none)
  (h:∀ s',St c F σ s'→Ext F1 σ1 s1 F σ s'→N s'):wpAny c.M A (pyNext (.ref I)) (fun r s1=>match r with | none=>N s1 | some v=>S v s1) E s :=
 wpAny_mono (K.done s N E B.at_ fun h' tk hk=>let T:=turned_of B.st B.off (h':=h') (tk:=tk) hk;h _ T.st (B.ext.touched hd T)) (fun r s' hh=>by obtain ⟨rfl,hh⟩:=hh;exact hh) fun _ _ e=>e
inductive BJ (c:Cfg) (fp wr:List Addr) (W:Nat→Heap→Prop) (F1:FM) (σ1:Sig) (s1:Shared) (xs:List SV) (J:Nat→Sig→Prop) (n:Nat) (s:Shared):Prop
 | mk (i:Nat) (F:FM) (σ:Sig) (B:Btw c fp wr W F1 σ1 s1 i F σ s) (j:J i σ) (hi:i≤xs.length) (hn:n=xs.length+1 - i):BJ c fp wr W F1 σ1 s1 xs J n s
theorem for_core {F0:FM} {s0:Shared} {σ0:Sig} {F1:FM} {σ1:Sig} {s1 s2:Shared} {body:List Stmt} {Q:SFlow→Sig→Prop} {E:Value→Shared→Prop} (J:Nat→Sig→Prop) (K:Itr c A target I fp wr xs F1 W) (hd:∀ b∈wr,s1.heap.get? b=none)
  (B0:Btw c fp wr W F1 σ1 s1 0 F1 σ1 s2) (X1:Ext F0 σ0 s0 F1 σ1 s1) (j0:J 0 σ1)
  (step:∀ i y σ',xs[i]?=some y→J i σ'→T1 c RU A (assign target env) y σ' (fun _ σ2=>TF c A (execs body env) σ2 (ForEnd (J (i+1)) Q))) (fin:∀ σ',J xs.length σ'→Q .next σ') :
  codeAny c.M A (.forLoop target (.ref I) body [] env) (fun r s'=>match r with | .ok f=>Post c RF F0 σ0 s0 Q f s' | .error e=>cameBackBy c.M A env E e s') s2:=by
 refine codeAny_forLoop_any (BJ c fp wr W F1 σ1 s1 xs J) ?_ (xs.length+1) ⟨0,F1,σ1,B0,j0,Nat.zero_le _,rfl⟩
 rintro n s ⟨i,F,σ,B,j,hi,rfl⟩
 by_cases hlt:i < xs.length
 ·refine K.next (y:=xs[i]) (by simp [hlt]) B (.refl _) hd fun F' v s' rv B1=>?_
  refine wpAny_mono ((step i xs[i] σ (by simp [hlt]) j).run F' s' _ v B1.st rv) (fun _ s2 p=>?_) fun _ _ e=>e
  obtain ⟨F2,σ2,_,_,H2,X2,q2⟩:=p
  have B2:=B1.step K X2 H2
  refine wpAny_mono (q2.run F2 s2 _ H2) (fun f s3 p=>?_) fun _ _ e=>e
  obtain ⟨F3,σ3,sf,rf,H3,X3,q3⟩:=p
  have B3:=B2.step K X3 H3
  cases sf with
  | next=>cases rf;exact ⟨xs.length+1 - (i+1),om204 hlt,i+1,F3,σ3,B3,q3,hlt,rfl⟩
  | cont=>cases rf;exact ⟨xs.length+1 - (i+1),om204 hlt,i+1,F3,σ3,B3,q3,hlt,rfl⟩
  | brk=>cases rf;exact ⟨F3,σ3,.next,rfl,H3,X1.trans B3.ext,q3⟩
  | ret v=>obtain ⟨u,rfl,ru⟩:=rf;exact ⟨F3,σ3,.ret v,⟨u,rfl,ru⟩,H3,X1.trans B3.ext,q3⟩
 ·have he:i=xs.length:=by exact om201 hi hlt
  subst he
  refine K.over B hd fun s' H' X'=>wpAny_execs_nil ?_
  exact ⟨F,σ,.next,rfl,H',X1.trans X',fin σ j⟩
theorem T_for {iter:Expr} {body:List Stmt} {pos:Pos} {Q:SFlow→Sig→Prop}
  (h:TV c A (eval iter env) σ (fun x σ1=>∃ (xs:List SV) (J:Nat→Sig→Prop),ItOf c A target x σ1 xs∧J 0 σ1 ∧
   (∀ i y σ',xs[i]?=some y→J i σ'→T1 c RU A (assign target env) y σ' (fun _ σ2=>TF c A (execs body env) σ2 (ForEnd (J (i+1)) Q)))∧∀ σ',J xs.length σ'→Q .next σ'))
  (hs:∀ x,foldedSetIterable iter env x=pure x):TF c A (exec (.For target iter body [] pos) env) σ Q:=.mk fun F0 s0 E H0=>by
 refine wpAny_For (h.wp H0 fun v s1 F1 σ1 x r1 H1 X1 q1=>?_) hs
 obtain ⟨xs,J,hit,j0,step,fin⟩:=q1
 exact hit F1 s1 E v _ H1 r1 fun I fp wr W h' tk K hw hd hq hk=>for_core J K hd (Btw.start H1 K hw hd hq hk) X1 j0 step fin
noncomputable def ItE (c:Cfg) (A:Around) (target iter:Expr) (env:Env) (σ:Sig) (xs:List SV):Prop :=
 ∀ F s E (Q:Value→Shared→Prop),St c F σ s →
  (∀ I fp wr W h' tk,Itr c A target I fp wr xs F W→W 0 h'→(∀ b∈wr,s.heap.get? b=none)→(∀ b∈fp,b∈wr∨(Quiet (σ b)∧∃ o,s.heap.get? b=some o))→(∀ b o,s.heap.get? b=some o→h'.get? b=some o)→Q (.ref I) { s with heap:=h',toks:=tk }) →
  wpAny c.M A (eval iter env) (fun x s1=>wpAny c.M A (pyIter x) Q E s1) E s
theorem T_forE {iter:Expr} {body:List Stmt} {pos:Pos} {Q:SFlow→Sig→Prop} (hit:ItE c A target iter env σ xs) (J:Nat→Sig→Prop) (j0:J 0 σ)
  (step:∀ i y σ',xs[i]?=some y→J i σ'→T1 c RU A (assign target env) y σ' (fun _ σ2=>TF c A (execs body env) σ2 (ForEnd (J (i+1)) Q))) (fin:∀ σ',J xs.length σ'→Q .next σ')
  (hs:∀ x,foldedSetIterable iter env x=pure x):TF c A (exec (.For target iter body [] pos) env) σ Q:=.mk fun F0 s0 E H0 =>
 wpAny_For (hit F0 s0 E _ H0 fun I fp wr W h' tk K hw hd hq hk=>for_core J K hd (Btw.start H0 K hw hd hq hk) (.refl ..) j0 step fin) hs
end
end Mine
end
section
namespace Mine
noncomputable def QList (σ:Sig) (x:SV) (xs:List SV):Prop:=(∃ l,x=.ref l∧σ l=some (.ro (.list xs)))∨(∃ ds,x=.d (.list ds)∧xs=ds.map SV.d)
theorem QList.as {σ:Sig} {x:SV} {xs:List SV} (h:QList σ x xs):AsList σ x xs:=h.imp (fun ⟨l,a,b⟩=>⟨l,a,.inr b⟩) id
theorem QList.ro {σ:Sig} {l:Addr} {xs:List SV} (h:σ l=some (.ro (.list xs))):QList σ (.ref l) xs:=.inl ⟨l,rfl,h⟩
noncomputable def NameT (t:Expr):Prop:=∃ x p,t=.Name x p
noncomputable def TupT (t:Expr):Prop:=∃ es k p,t=.Tuple es k p
section
variable {c:Cfg} {A:Around} {F:FM} {σ:Sig} {s:Shared} {env:Env} {target:Expr}
theorem QList.get {x:SV} {xs:List SV} {v:Value} (h:QList σ x xs) (H:St c F σ s) (r:VRel F x v):∃ l vs n,v=.ref l∧s.heap.get? l=some (listObj vs n)∧Paired (VRel F) xs vs∧Quiet (σ l):=by
 obtain ⟨l,vs,n,e,g,p⟩:=h.as.get H r
 refine ⟨l,vs,n,e,g,p,?_⟩
 subst e
 rcases h with ⟨l',rfl,q⟩ | ⟨ds,rfl,rfl⟩
 ·have:Value.ref l=.ref l':=r
  cases this
  rw [q];rfl
 ·simp only [VRel,RD] at r
  obtain ⟨a,vs',n',e,f,_⟩:=r
  cases e
  cases q:σ l with
  | none=>trivial
  | some o=>have:=(H.tr l o q).1;rw [f] at this;cases this
theorem go_name (h:NameT target) {it v:Value} {s:Shared} {Q:Unit→Shared→Prop} {E:Value→Shared→Prop} (q:Q () s):wpAny c.M A (letOwnedTupleGo target it v) Q E s:=by
 obtain ⟨x,p,rfl⟩:=h
 exact wpAny_pure q
theorem it_list {n:Nat} {x:SV} {xs:List SV} (R:Rm n A) (hx:QList σ x xs) (ht:NameT target∨(TupT target∧∀ y∈xs,∃ ds,y=.d (.tuple ds))):ItOf c A target x σ xs:=fun F s E v Q H r h=>by
 obtain ⟨l,vs,n,rfl,g,p,hq⟩:=hx.get H r
 have hne:l≠s.heap.objs.size:=Nat.ne_of_lt (Heap.lt_size g)
 refine wpAny_pyIter_list (isL g) ?_
 have W:=Walks.list (prog:=c.prog) (w:=c.w) R.hh s.heap.objs.size l hne vs.toArray
 rw [show vs.toArray.size=xs.length by rw [List.size_toArray,p.length]] at W
 refine h _ [s.heap.objs.size,l] [s.heap.objs.size] _ _ s.toks (Itr.of_walks W (fun i v F' hl hi hP=>?_) (fun i h hw b hb=>?_) fun i s v Q E hw hP q=>?_) ⟨⟨_,Heap.get?_push_size _ rfl,rfl,rfl⟩,(isL g).push _⟩ (fun b hb=>?_) (fun b hb=>?_) fun b o e=>Heap.get?_push_of_some _ e
 ·obtain ⟨y,hy,ry⟩:=paired_get' p (i:=i) (y:=v) (by simpa using hP)
  exact ⟨y,hy,ry.mono hl⟩
 ·rcases List.mem_cons.mp hb with rfl | hb
  ·obtain ⟨o,e,_⟩:=hw.1;exact ⟨o,e⟩
  ·rw [List.mem_singleton.mp hb];obtain ⟨o,e,_⟩:=hw.2;exact ⟨o,e⟩
 ·rcases ht with ht | ⟨⟨es,k,pp,rfl⟩,ht⟩
  ·exact go_name ht q
  ·obtain ⟨y,hy,ry⟩:=paired_get' p (i:=i - 1) (y:=v) (by simpa using hP)
   obtain ⟨ds,rfl⟩:=ht y (List.mem_of_getElem? hy)
   simp only [VRel,RD] at ry
   obtain ⟨a,vs',n',rfl,_⟩:=ry
   exact wpAny_letOwnedTupleGo_listiter hw.1 q
 ·rw [List.mem_singleton.mp hb];exact get_fresh _ (Nat.le_refl _)
 ·rcases List.mem_cons.mp hb with rfl | hb
  ·exact .inl (by simp)
  ·rw [List.mem_singleton.mp hb];exact .inr ⟨hq,_,g⟩
theorem it_tup {n:Nat} {x:SV} {xs:List SV} (R:Rm n A) (hx:AsTup x xs) (ht:NameT target):ItOf c A target x σ xs:=fun F s E v Q H r h=>by
 obtain ⟨l,vs,n,rfl,g,p⟩:=hx.get H r
 have hne:l≠s.heap.objs.size:=Nat.ne_of_lt (Heap.lt_size g)
 have hq:Quiet (σ l):=by
  obtain ⟨ds,rfl,rfl⟩:=hx
  simp only [VRel,RD] at r
  obtain ⟨a,vs',n',e,f,_⟩:=r
  cases e
  cases q:σ l with
  | none=>trivial
  | some o=>have:=(H.tr l o q).1;rw [f] at this;cases this
 refine wpAny_pyIter_tuple (isTu g) ?_
 have W:=Walks.tuple (prog:=c.prog) (w:=c.w) R.hh s.heap.objs.size l hne vs.toArray
 rw [show vs.toArray.size=xs.length by rw [List.size_toArray,p.length]] at W
 refine h _ [s.heap.objs.size,l] [s.heap.objs.size] _ _ s.toks (Itr.of_walks W (fun i v F' hl hi hP=>?_) (fun i h hw b hb=>?_) fun i s v Q E hw hP q=>go_name ht q) ⟨⟨_,Heap.get?_push_size _ rfl,rfl,rfl⟩,_,Heap.get?_push_of_some _ g,rfl,_,rfl⟩ (fun b hb=>?_) (fun b hb=>?_) fun b o e=>Heap.get?_push_of_some _ e
 ·obtain ⟨y,hy,ry⟩:=paired_get' p (i:=i) (y:=v) (by simpa using hP)
  exact ⟨y,hy,ry.mono hl⟩
 ·rcases List.mem_cons.mp hb with rfl | hb
  ·obtain ⟨o,e,_⟩:=hw.1;exact ⟨o,e⟩
  ·rw [List.mem_singleton.mp hb];obtain ⟨o,e,_⟩:=hw.2;exact ⟨o,e⟩
 ·rw [List.mem_singleton.mp hb];exact get_fresh _ (Nat.le_refl _)
 ·rcases List.mem_cons.mp hb with rfl | hb
  ·exact .inl (by simp)
  ·rw [List.mem_singleton.mp hb];exact .inr ⟨hq,_,g⟩
noncomputable def QDict (c:Cfg) {K:Type} [DecidableEq K] (knd:KeyKind c.prog c.w K) (F:FM) (s:Shared) (d:Addr) (kvs:List (K×SV)):Prop:=∃ kvs',s.heap.DictOf knd d kvs'∧Paired (KV F) kvs kvs'
theorem alive_dict {K:Type} [DecidableEq K] {knd:KeyKind c.prog c.w K} {h:Heap} {d:Addr} {kvs:List (K×Value)} {ep:Nat} (x:h.DictAt knd d kvs ep):∃ o,h.get? d=some o:=let ⟨o,_,e,_⟩:=x;⟨o,e⟩
theorem it_keys {K:Type} [DecidableEq K] {knd:KeyKind c.prog c.w K} {n:Nat} {d:Addr} {kvs:List (K×SV)} (R:Rm n A) (enc:K→SV) (henc:∀ k v F,knd.is k v=true→VRel F (enc k) v)
  (hd:(d == sysModules)=false) (hx:∀ F s,St c F σ s→QDict c knd F s d kvs) (hq:Quiet (σ d)) (ht:NameT target):ItOf c A target (.ref d) σ (kvs.map fun p=>enc p.1):=fun F s E v Q H r h=>by
 have:v=.ref d:=r
 subst this
 obtain ⟨kvs',D,p⟩:=hx F s H
 obtain ⟨ep,D⟩:=D.dictAt
 obtain ⟨od,god⟩:=alive_dict D
 have hne:d≠s.heap.objs.size:=Nat.ne_of_lt (Heap.lt_size god)
 refine wpAny_pyIter_dict hd D ?_
 have W:=Walks.dictKeys (knd:=knd) (prog:=c.prog) (w:=c.w) R.hh s.heap.objs.size d hne kvs' ep
 have hlen:kvs'.length=(kvs.map fun p=>enc p.1).length:=by rw [List.length_map,p.length]
 rw [hlen] at W
 refine h _ [s.heap.objs.size,d] [s.heap.objs.size] _ _ s.toks (Itr.of_walks W (fun i v F' hl hi hP=>?_) (fun i h hw b hb=>?_) fun i s v Q E hw hP q=>go_name ht q) ⟨?_,D.push _⟩ (fun b hb=>?_) (fun b hb=>?_) fun b o e=>Heap.get?_push_of_some _ e
 ·obtain ⟨k,x,e,hk⟩:=hP
  obtain ⟨y,hy,ry⟩:=paired_get' p e
  refine ⟨enc k,?_,henc k v F' hk⟩
  have e1:y.1=k:=ry.1
  rw [List.getElem?_map,hy,←e1];rfl
 ·rcases List.mem_cons.mp hb with rfl | hb
  ·obtain ⟨o,e,_⟩:=hw.1;exact ⟨o,e⟩
  ·rw [List.mem_singleton.mp hb];exact alive_dict hw.2
 ·rw [←hlen];exact ⟨_,Heap.get?_push_size _ rfl,rfl,rfl⟩
 ·rw [List.mem_singleton.mp hb];exact get_fresh _ (Nat.le_refl _)
 ·rcases List.mem_cons.mp hb with rfl | hb
  ·exact .inl (by simp)
  ·rw [List.mem_singleton.mp hb];exact .inr ⟨hq,_,god⟩
theorem it_vals {K:Type} [DecidableEq K] {knd:KeyKind c.prog c.w K} {n:Nat} {d:Addr} {kvs:List (K×SV)} (R:Rm n A)
  (hx:∀ F s,St c F σ s→QDict c knd F s d kvs) (hq:Quiet (σ d)) (ht:NameT target):ItOf c A target (.o { cls:=.type "dict_values",data:=.fields #[.ref d] }) σ (kvs.map (·.2)):=fun F s E v Q H r h=>by
 obtain ⟨vv,rfl,fv⟩:=r
 obtain ⟨kvs',D,p⟩:=hx F s H
 obtain ⟨ep,D⟩:=D.dictAt
 obtain ⟨od,god⟩:=alive_dict D
 have hne:d≠s.heap.objs.size:=Nat.ne_of_lt (Heap.lt_size god)
 refine wpAny_pyIter_values ⟨_,H.fz _ _ fv,rfl,rfl⟩ D ?_
 have W:=Walks.dictValues (knd:=knd) (prog:=c.prog) (w:=c.w) R.hh s.heap.objs.size d hne kvs' ep
 have hlen:kvs'.length=(kvs.map (·.2)).length:=by rw [List.length_map,p.length]
 rw [hlen] at W
 refine h _ [s.heap.objs.size,d] [s.heap.objs.size] _ _ s.toks (Itr.of_walks W (fun i v F' hl hi hP=>?_) (fun i h hw b hb=>?_) fun i s v Q E hw hP q=>go_name ht q) ⟨?_,D.push _⟩ (fun b hb=>?_) (fun b hb=>?_) fun b o e=>Heap.get?_push_of_some _ e
 ·obtain ⟨k,e⟩:=hP
  obtain ⟨y,hy,ry⟩:=paired_get' p e
  refine ⟨y.2,?_,VRel.mono hl ry.2⟩
  rw [List.getElem?_map,hy];rfl
 ·rcases List.mem_cons.mp hb with rfl | hb
  ·obtain ⟨o,e,_⟩:=hw.1;exact ⟨o,e⟩
  ·rw [List.mem_singleton.mp hb];exact alive_dict hw.2
 ·rw [←hlen];exact ⟨_,Heap.get?_push_size _ rfl,rfl,rfl⟩
 ·rw [List.mem_singleton.mp hb];exact get_fresh _ (Nat.le_refl _)
 ·rcases List.mem_cons.mp hb with rfl | hb
  ·exact .inl (by simp)
  ·rw [List.mem_singleton.mp hb];exact .inr ⟨hq,_,god⟩
noncomputable abbrev rngObj (a b k:Int) (t u v:Tok):Obj:={ cls:=.type "range",data:=.fields #[.int a t,.int b u,.int k v] }
noncomputable def rngL (a k:Int) (n:Nat):List SV:=(List.range n).map fun (i:Nat)=>SV.d (.int (a+(i:Int) * k))
theorem rngL_get {a k:Int} {n i:Nat} {y:SV} (h:(rngL a k n)[i]?=some y):i < n∧y=.d (.int (a+i * k)):=by
 unfold rngL at h
 rw [List.getElem?_map] at h
 obtain ⟨j,hj,rfl⟩:=Option.map_eq_some_iff.mp h
 have:=List.getElem?_eq_some_iff.mp hj
 obtain ⟨h1,h2⟩:=this
 simp at h1 h2
 subst h2;exact ⟨h1,rfl⟩
theorem newO {ob:Obj} {Q:SV→Sig→Prop} (H:St c F σ s) (hf:ob.isFreed=false) (tk:Tok) (h:Q (.o ob) σ):Post c VRel F σ s Q (.ref s.heap.objs.size) { s with heap:=s.heap.push ob,toks:=tk }:=by
 obtain ⟨l4,S4,X4⟩:=H.newF (h':=s.heap.push ob) (tk:=tk) (get_fresh _ (Nat.le_refl _)) (fun b o e=>Heap.get?_push_of_some _ e) (Heap.get?_push_size _ hf)
 exact ⟨_,σ,.o ob,⟨_,rfl,updF_self ..⟩,S4,X4,h⟩
theorem C_range1 {n:Int} {Q:SV→Sig→Prop} (h:∀ t u v,Q (.o (rngObj 0 n 1 t u v)) σ):CallT c A (.type "range") [.d (.int n)] σ Q:=.mk fun F s E vs H r=>by
 cases r with
 | cons r1 r =>
 cases r
 obtain ⟨t,rfl⟩:=rd_int r1
 exact call_range_1 (newO H rfl _ (h _ _ _))
theorem C_range2 {a b:Int} {Q:SV→Sig→Prop} (h:∀ t u v,Q (.o (rngObj a b 1 t u v)) σ):CallT c A (.type "range") [.d (.int a),.d (.int b)] σ Q:=.mk fun F s E vs H r=>by
 cases r with
 | cons r1 r =>
 cases r with
 | cons r2 r =>
 cases r
 obtain ⟨t,rfl⟩:=rd_int r1
 obtain ⟨t',rfl⟩:=rd_int r2
 exact call_range_2 (newO H rfl _ (h _ _ _))
theorem C_range3 {a b k:Int} {Q:SV→Sig→Prop} (hk:k≠0) (hp:Builtin.divisionGoesByPylong (b - a) k=false) (h:∀ t u v,Q (.o (rngObj a b k t u v)) σ):CallT c A (.type "range") [.d (.int a),.d (.int b),.d (.int k)] σ Q:=.mk fun F s E vs H r=>by
 cases r with
 | cons r1 r =>
 cases r with
 | cons r2 r =>
 cases r with
 | cons r3 r =>
 cases r
 obtain ⟨t,rfl⟩:=rd_int r1
 obtain ⟨t',rfl⟩:=rd_int r2
 obtain ⟨t'',rfl⟩:=rd_int r3
 exact call_range_3 hk (newO H rfl _ (h _ _ _)) (.inl hp)
theorem it_range {n:Nat} {a b k:Int} {t u v:Tok} {m:Nat} (R:Rm n A) (hm:Builtin.Range.rangeSize a b k=m) (hs:Builtin.Range.small a b k=true) (ht:NameT target):ItOf c A target (.o (rngObj a b k t u v)) σ (rngL a k m):=fun F s E vv Q H r h=>by
 obtain ⟨rr,rfl,fv⟩:=r
 refine wpAny_pyIter_range (H.fz _ _ fv) hs ?_
 rw [hm]
 have W:=Walks.range (prog:=c.prog) (w:=c.w) R.hh s.heap.objs.size a k m
 have hlen:m=(rngL a k m).length:=by simp [rngL]
 rw (occs:=.pos [1]) [hlen] at W
 refine h _ [s.heap.objs.size] [s.heap.objs.size] _ _ s.toks (Itr.of_walks W (fun i v F' hl hi hP=>?_) (fun i h hw b hb=>?_) fun i s v Q E hw hP q=>go_name ht q) ?_ (fun b hb=>?_) (fun b hb=>.inl hb) fun b o e=>Heap.get?_push_of_some _ e
 ·obtain ⟨t,rfl⟩:=hP
  refine ⟨_,?_,rel_int _ t⟩
  rw [←hlen] at hi
  simp [rngL,hi]
 ·rw [List.mem_singleton.mp hb];exact ⟨_,hw⟩
 ·have:=Heap.get?_push_size s.heap (o:={ cls:=Value.type "range_iterator",data:=Data.fields #[rawInt a,rawInt (m:Int),rawInt k] }) rfl
  simpa [IsRangeIter] using this
 ·rw [List.mem_singleton.mp hb];exact get_fresh _ (Nat.le_refl _)
theorem it_str {n:Nat} {x:Str} (R:Rm n A) (hx:x.cps.all (· < 128)=true) (ht:NameT target):ItOf c A target (.d (.str x)) σ (x.cps.toList.map fun k=>SV.d (.str ⟨#[k]⟩)):=fun F s E vv Q H r h=>by
 obtain ⟨t,rfl⟩:=rd_str r
 have W:=Walks.strAscii (prog:=c.prog) (w:=c.w) R.hh s.heap.objs.size x t
 have hlen:x.cps.size=(x.cps.toList.map fun k=>SV.d (.str ⟨#[k]⟩)).length:=by simp
 rw [hlen] at W
 refine wpAny_pyIter_ascii hx ?_
 refine h _ [s.heap.objs.size] [s.heap.objs.size] _ _ s.toks (Itr.of_walks W (fun i v F' hl hi hP=>?_) (fun i h hw b hb=>?_) fun i s v Q E hw hP q=>go_name ht q) ?_ (fun b hb=>?_) (fun b hb=>.inl hb) fun b o e=>Heap.get?_push_of_some _ e
 ·obtain ⟨k,u,e,rfl⟩:=hP
  refine ⟨_,?_,rel_str _ u⟩
  have e':x.cps.toList[i]?=some k:=by simpa using e
  rw [List.getElem?_map,e'];rfl
 ·rw [List.mem_singleton.mp hb];obtain ⟨o,e,_⟩:=hw;exact ⟨o,e⟩
 ·exact ⟨_,Heap.get?_push_size _ rfl,rfl,rfl⟩
 ·rw [List.mem_singleton.mp hb];exact get_fresh _ (Nat.le_refl _)
end
end Mine
end
section
namespace Mine
section
variable {c:Cfg} {A:Around} {F F' F1:FM} {σ σ' σ1:Sig} {s s' s1 s2:Shared} {env:Env} {I:Addr} {fp wr:List Addr} {xs:List SV} {W:Nat→Heap→Prop} {target:Expr}
noncomputable def TTests (c:Cfg) (A:Around) (env:Env):List Expr→Sig→(Bool→Sig→Prop)→Prop
 | [],σ,Q=>Q true σ
 | e :: rest,σ,Q=>TB c A (PySem.isTrue e env (eval e env)) σ (fun b σ1=>(b=true→TTests c A env rest σ1 Q)∧(b=false→Q false σ1))
noncomputable abbrev testLoop (ifs:List Expr) (b:Bool) (env:Env):Sem Bool :=
 forIn ifs b fun c r=>if r=true then do let ok ←PySem.isTrue c env (eval c env);pure (ForInStep.yield ok) else pure (ForInStep.yield r)
theorem testLoop_false (env:Env):∀ ifs:List Expr,testLoop ifs false env=pure false
 | []=>rfl
 | e :: r=>by
  unfold testLoop
  rw [List.forIn_cons]
  simp only [Bool.false_eq_true,if_false]
  exact (pure_bind _ _).trans (testLoop_false env r)
theorem tests_wp:∀ (ifs:List Expr) (σ:Sig) (Q:Bool→Sig→Prop),TTests c A env ifs σ Q→TG c RB A (testLoop ifs true env) σ Q:=fun l=>by
 induction l with
 | nil=>exact fun σ Q h=>.mk fun F s E H=>wpAny_pure ⟨F,σ,true,rfl,H,.refl ..,h⟩
 | cons e r ih =>
  intro σ Q h
  exact .mk fun F s E H=>by
    unfold testLoop
    rw [List.forIn_cons]
    simp only [if_true]
    refine wpAny_bind (wpAny_bind (h.wp H fun b s1 F1 σ1 x r1 H1 X1 q1=>wpAny_pure ?_))
    cases r1
    cases b with
    | true=>exact wpAny_mono ((ih σ1 Q (q1.1 rfl)).run F1 s1 E H1) (fun _ _ p=>p.lift X1) fun _ _ e=>e
    | false =>
     show wpAny c.M A (testLoop r false env) _ _ _
     rw [testLoop_false]
     exact wpAny_pure ⟨F1,σ1,false,rfl,H1,X1,q1.2 rfl⟩
noncomputable def CB (c:Cfg) (A:Around) (target:Expr) (ifs:List Expr) (elt:Expr) (cenv:Env) (σ1:Sig) (C:Addr) (x:SV) (r:Option SV):Prop :=
 ∀ m,T1 c RU A (assign target cenv) x (fr σ1 C [] m) (fun _ σ'=>TTests c A cenv ifs σ' (fun b σ''=>(b=false→r=none∧∃ m',σ''=fr σ1 C [] m') ∧
  (b=true→TV c A (eval elt cenv) σ'' (fun z σ3=>r=some z∧∃ m',σ3=fr σ1 C [] m'))))
theorem Btw.poke {F0:FM} {i:Nat} {D:Addr} {h':Heap} {tk:Nat} (B:Btw c fp wr W F1 σ1 s1 i F σ s) (K:Itr c A target I fp wr xs F0 W) (h1:s1.heap.get? D=none) (h2:σ D=none∧F D=none) (h3:D∉fp)
  (hk:∀ b o,b≠D→s.heap.get? b=some o→h'.get? b=some o):Btw c fp wr W F1 σ1 s1 i F σ { s with heap:=h',toks:=tk }:=by
 have T:=turned_of (wr:=[D]) B.st (fun b hb=>by rw [List.mem_singleton.mp hb];exact h2) (h':=h') (tk:=tk) (fun b o hb e=>hk b o (by simpa using hb) e)
 exact ⟨T.st,B.ext.touched (fun b hb=>by rw [List.mem_singleton.mp hb];exact h1) T,K.frame i _ _ B.at_ fun b hb o e=>hk b o (fun q=>h3 (q▸hb)) e,B.quiet,B.off⟩
theorem adopt {D:Addr} {ob:Obj} (H:St c F σ s) (X:Ext F1 σ1 s1 F σ s) (h1:s1.heap.get? D=none) (h2:σ D=none) (h3:F D=none) (g:s.heap.get? D=some ob) :
  FLe F (updF F D ob)∧St c (updF F D ob) σ s∧Ext F1 σ1 s1 (updF F D ob) σ s:=by
 have l:=updF_le (o:=ob) h3
 refine ⟨l,⟨fun b x e=>l _ _ (H.base b x e),fun b x e=>?_,fun b x e=>⟨?_,(H.tr b x e).2.mono l⟩⟩,⟨X.fle.trans l,X.keep,X.alive,fun b x e q=>⟨(X.prov b x e q).1,?_⟩,X.rest⟩⟩
 ·by_cases q:b=D
  ·subst q;rw [updF_self] at e;cases e;exact g
  ·exact H.fz b x (by simpa [updF,q] using e)
 ·have q:b≠D:=fun q=>by rw [q,h2] at e;cases e
  simpa [updF,q] using (H.tr b x e).1
 ·have nq:b≠D:=fun z=>by rw [z,h1] at e;cases e
  have:=(X.prov b x e q).2
  simpa [updF,nq] using this
theorem comp_out {C:Addr} {m:Str→Option SV} {h':Heap} (H:St c F (fr σ1 C [] m) s) (X:Ext F1 σ1 s1 F (fr σ1 C [] m) s) (hC:s1.heap.get? C=none) (hσ:σ1 C=none) (hs:Heap.SameBut C s.heap h') :
  St c F σ1 { s with heap:=h' }∧Ext F1 σ1 s1 F σ1 { s with heap:=h' }:=by
 have hFC:F C=none:=(H.tr C _ (fr_self ..)).1
 have hfr:∀ b,b≠C→fr σ1 C [] m b=σ1 b:=fun b hb=>fr_other hb (fun _ h=>by cases h)
 refine ⟨⟨H.base,fun b o e=>(hs.2 b (fun q=>by rw [q,hFC] at e;cases e)).trans (H.fz b o e),fun b o e=>?_⟩,⟨X.fle,fun b o q e=>?_,fun b o e=>?_,fun b o e q=>⟨?_,(X.prov b o e q).2⟩,by rw [X.rest]⟩⟩
 ·have hb:b≠C:=fun q=>by rw [q,hσ] at e;cases e
  have:=H.tr b o (by rw [hfr b hb];exact e)
  exact ⟨this.1,this.2.at fun ob g=>(hs.2 b hb).trans g⟩
 ·have hb:b≠C:=fun q=>by rw [q,hC] at e;cases e
  exact (hs.2 b hb).trans (X.keep b o q e)
 ·have hb:b≠C:=fun q=>by rw [q,hC] at e;cases e
  obtain ⟨o',e'⟩:=X.alive b o e
  exact ⟨o',(hs.2 b hb).trans e'⟩
 ·rfl
inductive CLJ (c:Cfg) (fp wr:List Addr) (W:Nat→Heap→Prop) (F1:FM) (σ1:Sig) (s1:Shared) (xs:List SV) (g:SV→Option PyData) (C D:Addr) (n:Nat) (s:Shared):Prop
 | mk (i:Nat) (F:FM) (m:Str→Option SV) (vs:List Value) (k:Nat) (B:Btw c fp wr W F1 σ1 s1 i F (fr σ1 C [] m) s) (fD:F D=none) (gD:s.heap.get? D=some (listObj vs k)) (p:Paired (VRel F) (((xs.take i).filterMap g).map SV.d) vs) (hi:i≤xs.length) (hn:n=xs.length+1 - i):CLJ c fp wr W F1 σ1 s1 xs g C D n s
theorem comp_loop {F0:FM} {ifs:List Expr} {elt iter:Expr} {scope:Scope} {pos:Pos} {cenv:Env} {C D:Addr} {g:SV→Option PyData} {R:Result→Shared→Prop} {s2:Shared} {m0:Str→Option SV}
  (K:Itr c A target I fp wr xs F0 W) (hl0:FLe F0 F1) (hd:∀ b∈wr,s1.heap.get? b=none) (hDf:D∉fp) (hD1:s1.heap.get? D=none) (hσD:σ1 D=none) (hDC:D≠C) (hz:xs.length≤1000)
  (body:∀ y∈xs,CB c A target ifs elt cenv σ1 C y ((g y).map SV.d))
  (B0:Btw c fp wr W F1 σ1 s1 0 F (fr σ1 C [] m0) s2) (hD2:∃ n,s2.heap.get? D=some (listObj [] n)) (hFD:F D=none)
  (hR:∀ F' m vs n s',St c F' (fr σ1 C [] m) s'→Ext F1 σ1 s1 F' (fr σ1 C [] m) s'→F' D=none→s'.heap.get? D=some (listObj vs n)→Paired (VRel F') ((xs.filterMap g).map SV.d) vs→R (.ok .next) s') :
  codeAny c.M A (.compLoop (.ListComp elt [⟨target,iter,ifs,0⟩] scope pos) 0 (.ref I) (.ref D) cenv) R s2:=by
 obtain ⟨n2,g2⟩:=hD2
 refine codeAny_loop rfl (CLJ c fp wr W F1 σ1 s1 xs g C D) ?_ (xs.length+1)
  ⟨0,F,m0,[],n2,B0,hFD,g2,by simpa using Paired.nil,Nat.zero_le _,rfl⟩
 rintro n s ⟨i,F,m,vs,k,B,fD,gD,p,hi,rfl⟩
 have hfD:∀ m,fr σ1 C [] m D=none:=fun m=>by rw [fr_other hDC (fun _ h=>by cases h)];exact hσD
 have hDw:D∉wr:=fun h=>hDf (K.sub _ h)
 show wpAny _ A ((compTurn (.ListComp elt [⟨target,iter,ifs,0⟩] scope pos) 0 (.ref I) (.ref D) cenv).onRaise (fun x=>do noteFrame x cenv;theTreesLotGoes x)) _ _ s
 refine wpAny_noted ?_
 rw [compTurn_list]
 refine wpAny_bind (wpAny_standAt (wpAny_bind ?_))
 by_cases hlt:i < xs.length
 ·refine wpAny_mono (K.item i xs[i] F _ s (fun v s'=>∃ F',VRel F' xs[i] v∧Turned c wr F (fr σ1 C [] m) s F' s'∧W (i+1) s'.heap) _ (by simp [hlt]) (hl0.trans B.ext.fle) B.st B.off B.at_ fun F' v s' rv T hw=>⟨F',rv,T,hw⟩) (fun r s' h=>?_) fun _ _ e=>e
  obtain ⟨v,rfl,hh⟩:=h
  refine wpAny_bind (wpAny_mono hh (fun _ s3 h3=>?_) fun _ _ e=>e)
  obtain ⟨F3,rv,T,hw⟩:=h3
  have B1:=B.turn K hd T hw
  have gD3:=T.keep D _ hDw gD
  have fD3:F3 D=none:=(T.same D _ gD).trans fD
  refine wpAny_bind (wpAny_mono ((body xs[i] (by simp) m).run F3 s3 _ v B1.st rv) (fun _ s4 p4=>?_) fun _ _ e=>e)
  obtain ⟨F4,σ4,_,_,H4,X4,q4⟩:=p4
  have B4:=B1.step K X4 H4
  refine wpAny_bind (wpAny_mono ((tests_wp ifs σ4 _ q4).run F4 s4 _ H4) (fun ok s5 p5=>?_) fun _ _ e=>e)
  obtain ⟨F5,σ5,b,rb,H5,X5,q5⟩:=p5
  cases rb
  try subst rb
  have B5:=B4.step K X5 H5
  have X35:=X4.trans X5
  have gD5:=X35.keep D _ (quiet_none (hfD m)) gD3
  have fD5:F5 D=none:=((X35.prov D _ gD3 (quiet_none (hfD m))).2).trans fD3
  have hσ5:σ5 D=none:=((X35.prov D _ gD3 (quiet_none (hfD m))).1).trans (hfD m)
  have htake:(xs.take (i+1)).filterMap g=(xs.take i).filterMap g++(match g xs[i] with | some y=>[y] | none=>[]):=by
   rw [List.take_add_one,List.filterMap_append]
   congr 1
   simp only [hlt,List.getElem?_eq_getElem,Option.toList_some]
   cases e:g xs[i] <;> simp [e]
  have l35:FLe F F5:=T.le.trans X35.fle
  cases ok with
  | false =>
   obtain ⟨e,m',rfl⟩:=q5.1 rfl
   have eg:g xs[i]=none:=by cases z:g xs[i] with | none=>rfl | some y=>rw [z] at e;cases e
   simp only [Bool.false_eq_true,if_false]
   refine wpAny_pure ⟨rfl,xs.length+1 - (i+1),om204 hlt,i+1,F5,m',vs,k,B5,fD5,gD5,?_,hlt,rfl⟩
   rw [htake,eg,List.append_nil]
   exact paired_mono (fun _ _=>VRel.mono l35) p
  | true =>
   simp only [if_true]
   refine wpAny_bind (wpAny_bind ((q5.2 rfl).wp H5 fun y s6 F6 σ6 z r6 H6 X6 q6=>?_))
   obtain ⟨e,m',rfl⟩:=q6
   obtain ⟨yd,eg,rfl⟩:∃ yd,g xs[i]=some yd∧z=.d yd:=by
    cases w:g xs[i] with
    | none=>rw [w] at e;cases e
    | some y=>rw [w] at e;cases e;exact ⟨y,rfl,rfl⟩
   have B6:=B5.step K X6 H6
   have gD6:=X6.keep D _ (quiet_none hσ5) gD5
   have fD6:F6 D=none:=((X6.prov D _ gD5 (quiet_none hσ5)).2).trans fD5
   have hlen:vs.length≤1000:=by
    rw [←p.length,List.length_map]
    have:=List.length_filterMap_le g (xs.take i)
    rw [List.length_take] at this
    exact om258 hz hlt this
   refine wpAny_bind (wpAny_list_append_plain ⟨_,gD6⟩ (fun h' hl hs=>hl.elim fun n' g'=>wpAny_pure (wpAny_pure ⟨rfl,xs.length+1 - (i+1),om204 hlt,i+1,F6,m',vs++[y],n',B6.poke K hD1 ⟨hfD m',fD6⟩ hDf (fun b o hb e=>(hs.2 b hb).trans e),fD6,by rw [g'];simp,?_,hlt,rfl⟩)) (by rw [List.size_toArray,sizeLine_eq];exact om95 hlen))
   rw [htake,eg,List.map_append]
   exact paired_append (paired_mono (fun _ _=>VRel.mono (l35.trans X6.fle)) p) (.cons r6 .nil)
 ·have he:i=xs.length:=by exact om201 hi hlt
  subst he
  refine wpAny_mono (K.done s (fun s'=>R (.ok .next) s') _ B.at_ fun h' tk hk=>?_) (fun r s' h=>?_) fun _ _ e=>e
  ·have T:=turned_of B.st B.off (h':=h') (tk:=tk) hk
   exact hR F m vs k _ T.st (B.ext.touched hd T) fD (hk D _ hDw gD) (by rw [List.take_length] at p;exact p)
  ·obtain ⟨rfl,h⟩:=h
   exact wpAny_pure h
theorem T_listcomp {ifs:List Expr} {elt iter:Expr} {scope:Scope} {pos:Pos} {cl:List (Str×Addr)} {Q:SV→Sig→Prop}
  (h:TV c A (eval iter env) σ (fun x σ1=>∃ (xs:List SV) (g:SV→Option PyData),ItOf c A target x σ1 xs∧xs.length≤1000 ∧
   (∀ C,σ1 C=none→∀ y∈xs,CB c A target ifs elt (compEnvC scope cl C env) σ1 C y ((g y).map SV.d))∧Q (.d (.list (xs.filterMap g))) σ1))
  (hclos:closureFor scope env=pure cl) (hcell:∀ y∈scope.names,y.2≠.cell) (hkind:scope.kind=.function)
  (hnames:∀ y∈scope.names,y.2=.local→scope.names.lookup y.1=some .local) (hs:∀ x,foldedSetIterable iter env x=pure x) :
  TV c A (eval (.ListComp elt [⟨target,iter,ifs,0⟩] scope pos) env) σ Q:=.mk fun F0 s0 E H0=>by
 rw [eval_ListComp]
 refine wpAny_comprehension_free (use:=none) rfl hs hclos hkind hnames (h.wp H0 fun v s1 F1 σ1 x r1 H1 X1 q1=>?_)
 obtain ⟨xs,g,hit,hz,body,q⟩:=q1
 refine hit F1 s1 E v _ H1 r1 fun I fp wr W h' tk K hw hd hq hk=>?_
 have B0:=Btw.start (tk:=tk) H1 K hw hd hq hk
 have hD1:∀ a,h'.objs.size≤a→s1.heap.get? a=none:=fun a ha=>by
  cases e:s1.heap.get? a with
  | none=>rfl
  | some o=>have z:a < h'.objs.size:=Heap.lt_size (hk a o e);omega
 have dead:∀ a,s1.heap.get? a=none→σ1 a=none∧F1 a=none:=fun a ha=>by
  constructor
  ·cases e:σ1 a with
   | none=>rfl
   | some o=>obtain ⟨ob,gg⟩:=(H1.tr a o e).2.alive;rw [ha] at gg;cases gg
  ·cases e:F1 a with
   | none=>rfl
   | some o=>have:=H1.fz a o e;rw [ha] at this;cases this
 refine wpAny_newObj_type (wpAny_newFunctionEnv hcell (by intro y hy;simp at hy) (fun h₁ hns₁ hsb₁=>?_) hkind)
 dsimp only at hns₁ hsb₁ ⊢
 generalize hH2:h'.push { cls:=.type "list",dict:=none,data:=.seq ([]:List Value).toArray }=H2 at hns₁ hsb₁ ⊢
 have hCs:H2.objs.size=h'.objs.size+1:=by rw [←hH2,Heap.size_push]
 have hDC:h'.objs.size≠H2.objs.size:=by exact om206 hCs
 have old:∀ b o,h'.get? b=some o→h₁.get? b=some o:=fun b o e=>hsb₁.extBut b o (by
  have z:b < h'.objs.size:=Heap.lt_size e
  exact Nat.ne_of_lt (Nat.lt_trans z (show h'.objs.size < H2.objs.size by exact om205 hCs))) (Heap.get?_push_of_some _ (hH2▸Heap.get?_push_of_some _ e))
 have gD:h₁.get? h'.objs.size=some (listObj [] 0):=hsb₁.extBut _ _ hDC (Heap.get?_push_of_some _ (hH2▸Heap.get?_push_size _ rfl))
 have hC1:=hD1 H2.objs.size (om207 hCs)
 have hDd:=hD1 h'.objs.size (Nat.le_refl _)
 have S:=B0.st.new (h':=h₁) (tk:=tk+([]:List (Str×Value)).length) (a:=H2.objs.size) (o:=.ns (hideC [] fun _=>none)) (by
  show h'.get? _=none
  exact get_fresh _ (show h'.objs.size≤H2.objs.size by exact om207 hCs)) old ⟨_,hns₁,fun x v e=>by simp [hideC] at e⟩
 have hfr0:upd σ1 H2.objs.size (some (.ns (hideC [] fun _=>none)))=fr σ1 H2.objs.size [] (fun _=>none):=by
  funext b
  by_cases q:b=H2.objs.size
  ·subst q;rw [upd_self,fr_self]
  ·rw [upd_ne _ _ q,fr_other q (fun _ h=>by cases h)]
 rw [hfr0] at S
 have B1:=B0.step K S.2 S.1
 have hDf:h'.objs.size∉fp:=fun hm=>by
  obtain ⟨o,e⟩:=K.live 0 _ hw _ hm
  exact absurd (Heap.lt_size e) (Nat.lt_irrefl _)
 have loop:∀ s₂:Shared,s₂={ s1 with heap:=h₁,toks:=tk+([]:List (Str×Value)).length } →
   codeAny c.M A (.compLoop (.ListComp elt [⟨target,iter,ifs,0⟩] scope pos) 0 (.ref I) (.ref h'.objs.size) (compEnvC scope cl H2.objs.size env)) (compPost c.M A E none (Post c VRel F0 σ s0 Q) (.ref h'.objs.size) H2.objs.size) s₂:=by
  rintro s₂ rfl
  refine comp_loop K (.refl _) hd hDf hDd (dead _ hDd).1 hDC hz (body _ (dead _ hC1).1) B1 ⟨0,gD⟩ (dead _ hDd).2 fun F' m vs n s' H' X' fD gD' p=>?_
  obtain ⟨_,m',hn,_⟩:=H'.tr _ _ (fr_self σ1 H2.objs.size [] m)
  refine ⟨m',hn,fun h'' hs''=>?_⟩
  obtain ⟨H'',X''⟩:=comp_out H' X' hC1 (dead _ hC1).1 hs''
  obtain ⟨l,Hf,Xf⟩:=adopt (D:=h'.objs.size) H'' X'' hDd (dead _ hDd).1 fD ((hs''.2 _ hDC).trans gD')
  refine ⟨_,σ1,.d (.list (xs.filterMap g)),?_,Hf,X1.trans Xf,q⟩
  simp only [VRel,RD]
  exact ⟨_,vs,n,rfl,updF_self ..,(rds_of_paired p).mono l⟩
 exact codeAny_compStart_list (loop _ rfl) (K.self _ _ _ (K.frame 0 _ _ hw fun b hb o e=>old b o e) (loop _ rfl))
end
end Mine
end
section
namespace Mine
noncomputable def bindAll:List (Str×SV)→(Str→Option SV)→Str→Option SV
 | [],m=>m
 | (n,v) :: r,m=>bindAll r (setm m n v)
noncomputable abbrev csOf (scope:Scope) (L:Addr):List (Str×Addr):=cellsFrom (L+1) scope.names []
theorem bindL_rel {F:FM} {k:Str→Option NameKind}:∀ {bs:List (Str×SV)} {vs:List (Str×Value)} {m:Str→Option SV} {m':Str→Option Value},Paired (KV F) bs vs →
  (∀ x v,k x=some .local→m x=some v→∃ v',m' x=some v'∧VRel F v v')→∀ x v,k x=some .local→bindAll bs m x=some v→∃ v',bindL k vs m' x=some v'∧VRel F v v'
 | [],_,m,m',h,hm,x,v,hk,e=>by cases h;exact hm x v hk e
 | (n,y) :: r,_,m,m',h,hm,x,v,hk,e=>by
  cases h with
  | cons a b =>
   rename_i q vs
   obtain ⟨n',w⟩:=q
   have e1:n=n':=a.1
   subst e1
   refine bindL_rel b (m:=setm m n y) (fun z u hz ez=>?_) x v hk e
   by_cases q:z=n
   ·subst q
    rw [setm_self] at ez;cases ez
    rw [if_pos hz];exact ⟨w,by simp,a.2⟩
   ·rw [setm_ne _ _ q] at ez
    obtain ⟨v',e',r'⟩:=hm z u hz ez
    refine ⟨v',?_,r'⟩
    split
    ·simp [q,e']
    ·exact e'
theorem bindC_rel {F:FM} {k:Str→Option NameKind}:∀ {bs:List (Str×SV)} {vs:List (Str×Value)} {m:Str→Option SV} {m':Str→Option Value},Paired (KV F) bs vs →
  (∀ x v,k x≠some .local→m x=some v→∃ v',m' x=some v'∧VRel F v v')→∀ x v,k x≠some .local→bindAll bs m x=some v→∃ v',bindC k vs m' x=some v'∧VRel F v v'
 | [],_,m,m',h,hm,x,v,hk,e=>by cases h;exact hm x v hk e
 | (n,y) :: r,_,m,m',h,hm,x,v,hk,e=>by
  cases h with
  | cons a b =>
   rename_i q vs
   obtain ⟨n',w⟩:=q
   have e1:n=n':=a.1
   subst e1
   refine bindC_rel b (m:=setm m n y) (fun z u hz ez=>?_) x v hk e
   by_cases q:z=n
   ·subst q
    rw [setm_self] at ez;cases ez
    rw [if_neg hz];exact ⟨w,by simp,a.2⟩
   ·rw [setm_ne _ _ q] at ez
    obtain ⟨v',e',r'⟩:=hm z u hz ez
    refine ⟨v',?_,r'⟩
    split
    ·exact e'
    ·simp [q,e']
theorem cellsFrom_kind:∀ (names:List (Str×NameKind)) (n:Nat) (acc:List (Str×Addr)) (x:Str) (a:Addr),(x,a)∈cellsFrom n names acc→(x,a)∈acc∨(x,NameKind.cell)∈names
 | [],_,_,_,_,h=>.inl h
 | (y,kd) :: r,n,acc,x,a,h=>by
  unfold cellsFrom at h
  split at h
  ·rename_i hk
   have hk:kd=.cell:=by simpa using hk
   rcases cellsFrom_kind r _ _ x a h with q | q
   ·rcases List.mem_cons.mp q with q | q
    ·cases q;subst hk;exact .inr (.head _)
    ·exact .inl q
   ·exact .inr (.tail _ q)
  ·rcases cellsFrom_kind r _ _ x a h with q | q
   ·exact .inl q
   ·exact .inr (.tail _ q)
structure FnIs (c:Cfg) (f:Addr) (fd:FuncData) (body:List Stmt):Prop where
 at_:∃ oc od osl,c.K.lookup f=some ⟨oc,od,.func fd,osl⟩
 body:fd.body=.stmts body
 clo:fd.closure=[]
 code:codeIn c.K fd.code fd.qualname=true
 co:fd.scope.isCoroutine=false
 gen:fd.scope.isGenerator=false
 kind:fd.scope.kind=.function
 names:(fd.scope.names.map (·.1)).Nodup
theorem kind_of_nodup {l:List (Str×NameKind)} (h:(l.map (·.1)).Nodup) {x:Str} {k:NameKind} (hm:(x,k)∈l):l.lookup x=some k:=lookup_of_mem h hm
section
variable {c:Cfg} {A:Around} {F:FM} {σ:Sig} {s:Shared} {f:Addr} {fd:FuncData} {body:List Stmt}
theorem inCall_st {bs:List (Str×SV)} {binds:List (Str×Value)} {s':Shared} (I:FnIs c f fd body) (H:St c F σ s) (p:Paired (KV F) bs binds)
  (hb:∀ y∈bs,fd.scope.names.lookup y.1=some .local∨(fd.scope.names.lookup y.1=some .cell∧((csOf fd.scope s.heap.objs.size).lookup y.1).isSome=true))
  (hnd:((csOf fd.scope s.heap.objs.size).map (·.1)).Nodup)
  (x:InCallC s (callEnvC fd s.heap.objs.size f).locals (bindL (callEnvC fd s.heap.objs.size f).kindOf binds fun _=>none) (callEnvC fd s.heap.objs.size f).cells
    (bindC (callEnvC fd s.heap.objs.size f).kindOf binds fun _=>none) s') :
  FrOk σ s.heap.objs.size (csOf fd.scope s.heap.objs.size)∧St c F (fr σ s.heap.objs.size (csOf fd.scope s.heap.objs.size) (bindAll bs fun _=>none)) s'∧Ext F σ s F (fr σ s.heap.objs.size (csOf fd.scope s.heap.objs.size) (bindAll bs fun _=>none)) s':=by
 obtain ⟨h',tk,rfl,hk⟩:=x.done
 have fresh:∀ a,s.heap.objs.size≤a→σ a=none:=fun a ha=>by
  cases e:σ a with
  | none=>rfl
  | some o=>exact absurd (H.lt e) (Nat.not_lt.mpr ha)
 have ab:∀ q∈csOf fd.scope s.heap.objs.size,s.heap.objs.size < q.2:=fun q hq=>x.above q.1 q.2 hq
 have apart:((csOf fd.scope s.heap.objs.size).map (·.2)).Nodup:=by
  unfold List.Nodup
  rw [List.pairwise_map]
  exact x.apart
 have ok:FrOk σ s.heap.objs.size (csOf fd.scope s.heap.objs.size):=⟨fresh _ (Nat.le_refl _),fun q hq=>⟨fresh _ (Nat.le_of_lt (ab q hq)),Nat.ne_of_gt (ab q hq)⟩,hnd,apart⟩
 have S:=H.same (h':=h') (tk:=tk) hk
 refine ⟨ok,⟨H.base,S.1.fz,fun a o e=>?_⟩,⟨.refl F,fun _ _ _ e=>hk _ _ e,fun a o e=>⟨o,hk _ _ e⟩,fun a o e q=>⟨?_,rfl⟩,rfl⟩⟩
 ·have Fn:∀ a,s.heap.objs.size≤a→F a=none:=fun a ha=>by
   cases e:F a with
   | none=>rfl
   | some o=>exact absurd (Heap.lt_size (H.fz a o e)) (Nat.not_lt.mpr ha)
  unfold fr at e
  by_cases q:a=s.heap.objs.size
  ·rw [if_pos q] at e
   cases e
   subst q
   refine ⟨Fn _ (Nat.le_refl _),_,x.toInCall.ns,fun y v ey=>?_⟩
   unfold hideC at ey
   split at ey
   ·cases ey
   ·rename_i hy
    have hloc:fd.scope.names.lookup y=some .local:=by
     have:∃ z∈bs,z.1=y:=by
      clear p hb x hy
      suffices ∀ (m:Str→Option SV),bindAll bs m y=some v→(∃ z∈bs,z.1=y)∨m y=some v by
       rcases this _ ey with q | q
       ·exact q
       ·cases q
      clear ey
      induction bs with
      | nil=>exact fun m e=>.inr e
      | cons z r ih =>
       intro m e
       obtain ⟨n,w⟩:=z
       rcases ih _ e with ⟨z,hz,e⟩ | e
       ·exact .inl ⟨z,.tail _ hz,e⟩
       ·by_cases q:y=n
        ·exact .inl ⟨_,.head _,q.symm⟩
        ·rw [setm_ne _ _ q] at e;exact .inr e
     obtain ⟨z,hz,rfl⟩:=this
     rcases hb z hz with q | q
     ·exact q
     ·exact absurd q.2 hy
    exact bindL_rel p (fun _ _ _ e=>by cases e) y v hloc ey
  ·rw [if_neg q] at e
   cases w:(csOf fd.scope s.heap.objs.size).find? (fun p=>p.2 == a) with
   | none=>rw [w] at e;exact S.1.tr a o e
   | some z =>
    rw [w] at e
    cases e
    have hz:=List.mem_of_find?_eq_some w
    have e2:z.2=a:=by simpa using List.find?_some w
    subst e2
    refine ⟨Fn _ (Nat.le_of_lt (ab z hz)),_,x.cell z.1 z.2 (lookup_of_mem hnd hz),fun y ey=>?_⟩
    refine bindC_rel p (fun _ _ _ e=>by cases e) z.1 y ?_ ey
    have hm:(z.1,NameKind.cell)∈fd.scope.names:=(cellsFrom_kind _ _ _ _ _ hz).resolve_left (fun h=>by cases h)
    show fd.scope.names.lookup z.1≠some .local
    rw [kind_of_nodup I.names hm];decide
 ·have hl:=Heap.lt_size e
  exact fr_other (Nat.ne_of_lt hl) fun p hp z=>absurd (ab p hp) (by rw [z];exact Nat.not_lt.mpr (Nat.le_of_lt hl))
theorem fr_out {L:Addr} {cs:List (Str×Addr)} {m:Str→Option SV} {s:Shared} (ok:FrOk σ L cs) (H:St c F (fr σ L cs m) s):St c F σ s∧Ext F (fr σ L cs m) s F σ s :=
 H.less fun a=>by
  by_cases q:a=L
  ·subst q;exact .inr ⟨ok.free,by rw [fr_self];exact not_quiet rfl⟩
  ·unfold fr
   rw [if_neg q]
   cases w:cs.find? (fun p=>p.2 == a) with
   | none=>exact .inl rfl
   | some p =>
    have hp:=List.mem_of_find?_eq_some w
    have e2:p.2=a:=by simpa using List.find?_some w
    exact .inr ⟨e2▸(ok.cell p hp).1,not_quiet rfl⟩
inductive FrQ (L:Addr) (cs:List (Str×Addr)) (P:Sig→Prop) (σ':Sig):Prop
 | mk (σ1:Sig) (m:Str→Option SV) (e:σ'=fr σ1 L cs m) (ok:FrOk σ1 L cs) (q:P σ1):FrQ L cs P σ'
noncomputable def RetQ (L:Addr) (cs:List (Str×Addr)) (Q:SV→Sig→Prop):SFlow→Sig→Prop
 | .ret x,σ'=>FrQ L cs (Q x) σ'
 | _,σ'=>FrQ L cs (Q (.d .none)) σ'
theorem body_wp {Q:SV→Sig→Prop} {L:Addr} {cs:List (Str×Addr)} {s' s0:Shared} {σ':Sig} {env:Env} {R:Result→Shared→Prop} {E:Value→Shared→Prop} {F0:FM} (X:Ext F0 σ s0 F σ' s') (H:St c F σ' s')
  (h:TF c A (execs body env) σ' (RetQ L cs Q))
  (hR:∀ v s'',Post c VRel F0 σ s0 Q v s''→R (.ok (.ret v)) s'') :
  wpAny c.M A (execs body env) (fun f s'=>R (.ok (.ret (match f with | .ret v=>v | _=>.none))) s') E s' :=
 h.wp H fun fl s1 F1 σ1 x r1 H1 X1 q1=>by
  have out:∀ y v,VRel F1 y v→FrQ L cs (Q y) σ1→R (.ok (.ret v)) s1:=by
   rintro y v ry ⟨σ2,m,rfl,ok,q⟩
   obtain ⟨H2,X2⟩:=fr_out ok H1
   exact hR _ _ ⟨F1,σ2,y,ry,H2,(X.trans X1).trans X2,q⟩
  cases x with
  | next=>cases r1;exact out _ _ rel_none q1
  | brk=>cases r1;exact out _ _ rel_none q1
  | cont=>cases r1;exact out _ _ rel_none q1
  | ret y=>obtain ⟨v,rfl,ry⟩:=r1;exact out _ _ ry q1
structure CodeT (c:Cfg) (A:Around) (f:Value) (xs:List SV) (σ:Sig) (Q:SV→Sig→Prop):Prop where
 run:∀ F s (E:Value→Shared→Prop) vs,St c F σ s→Paired (VRel F) xs vs→codeAny c.M A (.call f ⟨vs,[]⟩) (fun r s'=>match r with | .ok (.ret v)=>Post c VRel F σ s Q v s' | .ok _=>False | .error e=>E e s') s
theorem CodeT.call {f:Value} {xs:List SV} {Q:SV→Sig→Prop} (h:CodeT c A f xs σ Q):CallT c A f xs σ Q:=.mk fun F s E vs H r=>wpAny_call (h.run F s E vs H r)
theorem D_fn {n:Nat} {xs:List SV} {Q:SV→Sig→Prop} (bs:List (Str×SV)) (I:FnIs c f fd body) (R:Rm (n+1) A)
  (hp:∀ F vs,Paired (VRel F) xs vs→∃ binds,(∀ S,peek c.K S (bindArgs fd ⟨vs,[]⟩)=some binds)∧Paired (KV F) bs binds)
  (hb:∀ L,∀ y∈bs,fd.scope.names.lookup y.1=some .local∨(fd.scope.names.lookup y.1=some .cell∧((csOf fd.scope L).lookup y.1).isSome=true))
  (hnd:((cellsFrom 0 fd.scope.names []).map (·.1)).Nodup)
  (h:∀ L,FrOk σ L (csOf fd.scope L)→TF c (A.deeper (callEnvC fd L f)) (execs body (callEnvC fd L f)) (fr σ L (csOf fd.scope L) (bindAll bs fun _=>none)) (RetQ L (csOf fd.scope L) Q)) :
  CodeT c A (.ref f) xs σ Q:=.mk fun F s E vs H r=>by
 obtain ⟨oc,od,osl,ho⟩:=I.at_
 obtain ⟨binds,e,p⟩:=hp F vs r
 have hnd':∀ L,((csOf fd.scope L).map (·.1)).Nodup:=fun L=>cellsFrom_names fd.scope.names 0 (L+1) [] [] rfl▸hnd
 have kv:∀ y∈binds,∃ z∈bs,z.1=y.1:=fun y hy=>by
  obtain ⟨i,hi,e⟩:=List.mem_iff_getElem.mp hy
  obtain ⟨z,hz,q⟩:=paired_get' p (i:=i) (y:=y) (by rw [←e];simp [hi])
  exact ⟨z,List.mem_of_getElem? hz,q.1⟩
 refine codeAny_call_function R.lt (H.kin _ _ ho) rfl I.co I.gen I.body (codeRec_of H.kin I.code) (kp_binds H.kin e _ _ _ _ ?_)
 rw [I.clo]
 refine wpAny_newFunctionEnv_cells I.kind (fun y hy=>by obtain ⟨z,hz,e⟩:=kv y hy;rw [←e];exact hb _ z hz) fun env he s₁ x=>?_
 subst he
 refine ⟨((c.top.nolimit).keeps H.old).keeps x.toInCall.keep,codeAny_func ?_⟩
 obtain ⟨ok,S,X⟩:=inCall_st I H p (hb _) (hnd' _) x
 exact wpAny_mono (body_wp (R:=fun r s'=>match r with | .ok (.ret v)=>Post c VRel F σ s Q v s' | .ok _=>False | .error e=>E e s') X S (h _ ok) (fun v s'' hp=>hp)) (fun _ _ p=>p) fun _ _ e=>e
theorem D_fnK {n:Nat} {xs:List SV} {Q:SV→Sig→Prop} {name qual:Str} {params:Arguments} {scope:Scope} {dV kV doc pm cdv ct oc:Value} {an od:Option Addr} {osl:Array (Option Value)} (bs:List (Str×SV))
  (ho:c.K.lookup f=some ⟨oc,od,.func (fnOf name qual params body scope dV kV doc pm an cdv ct),osl⟩) (hcd:codeIn c.K cdv qual=true) (R:Rm (n+1) A)
  (hp:∀ F vs,Paired (VRel F) xs vs→∃ binds,(∀ S,peek c.K S (bindArgs (fnOf name qual params body scope dV kV doc pm an cdv ct) ⟨vs,[]⟩)=some binds)∧Paired (KV F) bs binds)
  (h:∀ L,FrOk σ L (csOf scope L)→TF c (A.deeper (envOfC qual scope L f cdv)) (execs body (envOfC qual scope L f cdv)) (fr σ L (csOf scope L) (bindAll bs fun _=>none)) (RetQ L (csOf scope L) Q))
  (hb:∀ L,∀ y∈bs,scope.names.lookup y.1=some .local∨(scope.names.lookup y.1=some .cell∧((csOf scope L).lookup y.1).isSome=true))
  (hnd:((cellsFrom 0 scope.names []).map (·.1)).Nodup) (hnames:(scope.names.map (·.1)).Nodup)
  (hco:autoParam (scope.isCoroutine=false) aR) (hgen:autoParam (scope.isGenerator=false) aR) (hk:autoParam (scope.kind=.function) aR):CodeT c A (.ref f) xs σ Q :=
 D_fn bs ⟨⟨_,_,_,ho⟩,rfl,rfl,hcd,hco,hgen,hk,hnames⟩ R hp hb hnd h
theorem C_fnK {n:Nat} {xs:List SV} {Q:SV→Sig→Prop} {name qual:Str} {params:Arguments} {scope:Scope} {dV kV doc pm cdv ct oc:Value} {an od:Option Addr} {osl:Array (Option Value)} (bs:List (Str×SV))
  (ho:c.K.lookup f=some ⟨oc,od,.func (fnOf name qual params body scope dV kV doc pm an cdv ct),osl⟩) (hcd:codeIn c.K cdv qual=true) (R:Rm (n+1) A)
  (hp:∀ F vs,Paired (VRel F) xs vs→∃ binds,(∀ S,peek c.K S (bindArgs (fnOf name qual params body scope dV kV doc pm an cdv ct) ⟨vs,[]⟩)=some binds)∧Paired (KV F) bs binds)
  (h:∀ L,FrOk σ L (csOf scope L)→TF c (A.deeper (envOfC qual scope L f cdv)) (execs body (envOfC qual scope L f cdv)) (fr σ L (csOf scope L) (bindAll bs fun _=>none)) (RetQ L (csOf scope L) Q))
  (hb:∀ L,∀ y∈bs,scope.names.lookup y.1=some .local∨(scope.names.lookup y.1=some .cell∧((csOf scope L).lookup y.1).isSome=true))
  (hnd:((cellsFrom 0 scope.names []).map (·.1)).Nodup) (hnames:(scope.names.map (·.1)).Nodup)
  (hco:autoParam (scope.isCoroutine=false) aR) (hgen:autoParam (scope.isGenerator=false) aR) (hk:autoParam (scope.kind=.function) aR):CallT c A (.ref f) xs σ Q :=
 CodeT.call <| D_fn bs ⟨⟨_,_,_,ho⟩,rfl,rfl,hcd,hco,hgen,hk,hnames⟩ R hp hb hnd h
end
end Mine
end
section
namespace Mine
section
variable {K:Type} [DecidableEq K] {F:FM}
noncomputable def sget (kvs:List (K×SV)) (k:K):Option SV:=(kvs.find? fun p=>p.1=k).map (·.2)
noncomputable def sset (kvs:List (K×SV)) (k:K) (v:SV):List (K×SV):=if kvs.any (fun p=>p.1=k) then kvs.map (fun p=>if p.1=k then (p.1,v) else p) else kvs++[(k,v)]
noncomputable def sdel (kvs:List (K×SV)) (k:K):List (K×SV):=kvs.filter fun p=>decide (p.1≠k)
theorem paired_sget {k:K} {kvs:List (K×SV)} {kvs':List (K×Value)} (hp:Paired (KV F) kvs kvs'):OV F (sget kvs k) (valueAt kvs' k):=by
 induction hp with
 | nil=>trivial
 | @cons p q _ _ a r ih =>
  have e:p.1=q.1:=a.1
  unfold sget valueAt
  by_cases h:p.1=k
  ·rw [List.find?_cons_of_pos (by simpa using h),List.find?_cons_of_pos (by simpa using e▸h)];exact a.2
  ·rw [List.find?_cons_of_neg (by simpa using h),List.find?_cons_of_neg (by simpa using e▸h)];exact ih
theorem paired_any {k:K} {kvs:List (K×SV)} {kvs':List (K×Value)} (hp:Paired (KV F) kvs kvs'):kvs.any (fun p=>p.1=k)=kvs'.any (fun p=>p.1=k):=by
 induction hp with
 | nil=>rfl
 | @cons p q _ _ a r ih =>
  have e:p.1=q.1:=a.1
  rw [List.any_cons,List.any_cons,ih,e]
theorem paired_sset {k:K} {v:SV} {v':Value} (h:VRel F v v') {kvs:List (K×SV)} {kvs':List (K×Value)} (p:Paired (KV F) kvs kvs'):Paired (KV F) (sset kvs k v) (stored kvs' k v'):=by
 unfold sset stored
 rw [paired_any p]
 split
 ·rename_i hh
  clear hh
  induction p with
  | nil=>exact .nil
  | cons a r ih =>
   rename_i x y xs ys
   have e:x.1=y.1:=a.1
   refine .cons ?_ ih
   dsimp only
   by_cases q:x.1=k
   ·rw [if_pos q,if_pos (e▸q)];exact ⟨e,h⟩
   ·rw [if_neg q,if_neg (e▸q)];exact a
 ·exact paired_append p (.cons ⟨rfl,h⟩ .nil)
theorem paired_sdel {k:K} {kvs:List (K×SV)} {kvs':List (K×Value)} (p:Paired (KV F) kvs kvs'):Paired (KV F) (sdel kvs k) (without kvs' k):=by
 unfold sdel without
 induction p with
 | nil=>exact .nil
 | cons a r ih =>
  rename_i x y xs ys
  have e:x.1=y.1:=a.1
  by_cases q:x.1=k
  ·rw [List.filter_cons_of_neg (by simpa using q),List.filter_cons_of_neg (by simpa using e▸q)];exact ih
  ·rw [List.filter_cons_of_pos (by simpa using q),List.filter_cons_of_pos (by simpa using e▸q)];exact .cons a ih
end
section
variable {c:Cfg} {A:Around} {F:FM} {σ:Sig} {s:Shared} {env:Env} {K:Type} [DecidableEq K] {knd:KeyKind c.prog c.w K} {d:Addr} {kvs:List (K×SV)} {key x:SV} {k:K} {Q:SV→Sig→Prop}
theorem St.newMod (H:St c F σ s):(s.heap.objs.size == sysModules)=false:=beq_eq_false_iff_ne.mpr (Nat.ne_of_gt (modules_low (c.top.nolimit.keeps H.old)))
noncomputable def DictR (c:Cfg) (knd:KeyKind c.prog c.w K) (σ:Sig) (d:Addr) (kvs:List (K×SV)):Prop:=∀ F s,St c F σ s→QDict c knd F s d kvs∧(d == sysModules)=false
theorem DictR.I {kvs:List (Int×SV)} (h:Rd σ d (.dictI kvs)):DictR c (intKind c.prog c.w) σ d kvs:=fun F s H=>⟨(h.holds H).2.2,(h.holds H).2.1⟩
theorem DictR.S {kvs:List (Str×SV)} (h:Rd σ d (.dictS kvs)):DictR c (strKind c.prog c.w) σ d kvs:=fun F s H=>⟨(h.holds H).2.2,(h.holds H).2.1⟩
noncomputable def KeyR (c:Cfg) (knd:KeyKind c.prog c.w K) (x:SV) (k:K):Prop:=∀ F v,VRel F x v→knd.is k v=true
theorem KeyR.int {i:Int}:KeyR c (intKind c.prog c.w) (.d (.int i)) i:=fun F v r=>by
 obtain ⟨t,rfl⟩:=rd_int r
 show Value.isInt i (.int i t)=true
 simp [Value.isInt]
theorem KeyR.str {i:Str}:KeyR c (strKind c.prog c.w) (.d (.str i)) i:=fun F v r=>by
 obtain ⟨t,rfl⟩:=rd_str r
 exact strKind_is c.prog c.w i t
theorem ov_some {F:FM} {y:SV} {o:Option Value} (h:OV F (some y) o):∃ v,o=some v∧VRel F y v:=by
 cases o with
 | none=>cases h
 | some v=>exact ⟨v,rfl,h⟩
theorem ov_none {F:FM} {o:Option Value} (h:OV F none o):o=none:=by
 cases o with
 | none=>rfl
 | some v=>cases h
theorem ov_isSome {F:FM} {y:Option SV} {o:Option Value} (h:OV F y o):o.isSome=y.isSome:=by
 cases y with
 | none=>rw [ov_none h];rfl
 | some y=>obtain ⟨v,rfl,_⟩:=ov_some h;rfl
theorem G_dict (hd:DictR c knd σ d kvs) (hk:KeyR c knd key k) (hv:sget kvs k=some x) (h:Q x σ):T2 c VRel A getItem (.ref d) key σ Q:=.mk fun F s E v u H r1 r2=>by
 have:v=.ref d:=r1
 subst this
 obtain ⟨⟨kvs',D,p⟩,_⟩:=hd F s H
 obtain ⟨w,e,rw⟩:=ov_some (hv▸paired_sget (k:=k) p)
 have S:=H.tok (s.toks+1)
 exact wpAny_getItem_of (hk F u r2) D.mapOf e ⟨F,σ,x,rw,S.1,S.2,h⟩
theorem D_in (hd:DictR c knd σ d kvs) (hk:KeyR c knd key k) (h:Q (.d (.bool (sget kvs k).isSome)) σ):T2 c VRel A (compareOp .In) key (.ref d) σ Q:=.mk fun F s E v u H r1 r2=>by
 have:u=.ref d:=r2
 subst this
 obtain ⟨⟨kvs',D,p⟩,hm⟩:=hd F s H
 refine wpAny_in_of (hk F v r1) hm D.mapOf ?_
 rw [ov_isSome (paired_sget (k:=k) p)]
 exact post_boolT H _ _ h
theorem D_nin (hd:DictR c knd σ d kvs) (hk:KeyR c knd key k) (h:Q (.d (.bool (!(sget kvs k).isSome))) σ):T2 c VRel A (compareOp .NotIn) key (.ref d) σ Q:=.mk fun F s E v u H r1 r2=>by
 have:u=.ref d:=r2
 subst this
 obtain ⟨⟨kvs',D,p⟩,hm⟩:=hd F s H
 refine wpAny_notIn_of (hk F v r1) hm D.mapOf ?_
 rw [ov_isSome (paired_sget (k:=k) p)]
 exact post_boolT H _ _ h
theorem D_get1 (hd:DictR c knd σ d kvs) (hk:KeyR c knd key k) (h:Q ((sget kvs k).getD (.d .none)) σ):CallT c A (.builtin "dict.get") [.ref d,key] σ Q:=.mk fun F s E vs H r=>by
 cases r with
 | cons r1 r =>
 cases r with
 | cons r2 r =>
 cases r
 rename_i v u
 have:v=.ref d:=r1
 subst this
 obtain ⟨⟨kvs',D,p⟩,hm⟩:=hd F s H
 refine call_meetsIn PySem.F.slot_dict_get D.typeIs PySem.F.entry_dict_get (PySem.F.args_dict_get_2 _ _) (meets_dict_get knd d (hk F u r2) hm) ⟨_,D.mapOf,?_⟩
 have S:=H.tok (s.toks+1)
 have o:=paired_sget (k:=k) p
 cases e:sget kvs k with
 | none=>rw [e] at o h;rw [ov_none o];exact ⟨F,σ,_,rel_none,S.1,S.2,h⟩
 | some y=>rw [e] at o h;obtain ⟨w,e',rw⟩:=ov_some o;rw [e'];exact ⟨F,σ,_,rw,S.1,S.2,h⟩
theorem D_get2 {z:SV} (hd:DictR c knd σ d kvs) (hk:KeyR c knd key k) (h:Q ((sget kvs k).getD z) σ):CallT c A (.builtin "dict.get") [.ref d,key,z] σ Q:=.mk fun F s E vs H r=>by
 cases r with
 | cons r1 r =>
 cases r with
 | cons r2 r =>
 cases r with
 | cons r3 r =>
 cases r
 rename_i v u z'
 have:v=.ref d:=r1
 subst this
 obtain ⟨⟨kvs',D,p⟩,hm⟩:=hd F s H
 refine call_meetsIn PySem.F.slot_dict_get D.typeIs PySem.F.entry_dict_get (PySem.F.args_dict_get_3 _ _ _) (meets_dict_get_default knd d (hk F u r2) hm z') ⟨_,D.mapOf,?_⟩
 have S:=H.tok (s.toks+1)
 have o:=paired_sget (k:=k) p
 cases e:sget kvs k with
 | none=>rw [e] at o h;rw [ov_none o];exact ⟨F,σ,_,r3,S.1,S.2,h⟩
 | some y=>rw [e] at o h;obtain ⟨w,e',rw⟩:=ov_some o;rw [e'];exact ⟨F,σ,_,rw,S.1,S.2,h⟩
theorem type_dict (hd:DictR c knd σ d kvs):∀ F s v,St c F σ s→VRel F (.ref d) v→s.TypeIs v "dict"∧∀ a,v=.ref a→∃ ob,s.heap.get? a=some ob∧ob.dict=none:=fun F s v H r=>by
 have:v=.ref d:=r
 subst this
 obtain ⟨⟨kvs',D,p⟩,hm⟩:=hd F s H
 refine ⟨D.typeIs,fun a e=>?_⟩
 cases e
 obtain ⟨o,es,ep,g,x,_⟩:=D
 exact ⟨o,g,x.2.1⟩
theorem typeD (hd:DictR c knd σ d kvs):∀ F s v,St c F σ s→VRel F (.ref d) v→s.TypeIs v "dict":=fun F s v H r=>(type_dict hd F s v H r).1
theorem S_dictI {kvs:List (Int×SV)} {k:Int} {Q:Sig→Prop} (ha:σ d=some (.dictI kvs)) (hz:kvs.length≤1000) (h:Q (upd σ d (some (.dictI (sset kvs k x))))):T3 c RU A setItem (.ref d) (.d (.int k)) x σ (fun _ σ'=>Q σ'):=.mk fun F s E v u w H r1 r2 r3=>by
 have:v=.ref d:=r1
 subst this
 obtain ⟨_,nm,kvs',D,p⟩:=H.tr d _ ha
 refine wpAny_setItem_pairs (knd:=intKind c.prog c.w) (KeyR.int F u r2) D (fun h' hD hs=>?_) (by rw [←p.length,sizeLine_eq];exact om95 hz)
 have S:=H.set (o:=.dictI (sset kvs k x)) (h':=h') (tk:=s.toks+1) ha (fun b o hb e=>(hs.2 b hb).trans e) ⟨nm,_,hD,paired_sset r3 p⟩
 exact ⟨F,_,(),trivial,S.1,S.2,h⟩
theorem S_dictS {kvs:List (Str×SV)} {k:Str} {Q:Sig→Prop} (ha:σ d=some (.dictS kvs)) (hz:kvs.length≤1000) (h:Q (upd σ d (some (.dictS (sset kvs k x))))):T3 c RU A setItem (.ref d) (.d (.str k)) x σ (fun _ σ'=>Q σ'):=.mk fun F s E v u w H r1 r2 r3=>by
 have:v=.ref d:=r1
 subst this
 obtain ⟨_,nm,kvs',D,p⟩:=H.tr d _ ha
 refine wpAny_setItem_pairs (knd:=strKind c.prog c.w) (KeyR.str F u r2) D (fun h' hD hs=>?_) (by rw [←p.length,sizeLine_eq];exact om95 hz)
 have S:=H.set (o:=.dictS (sset kvs k x)) (h':=h') (tk:=s.toks+1) ha (fun b o hb e=>(hs.2 b hb).trans e) ⟨nm,_,hD,paired_sset r3 p⟩
 exact ⟨F,_,(),trivial,S.1,S.2,h⟩
theorem Del_dictI {kvs:List (Int×SV)} {k:Int} {Q:Sig→Prop} (ha:σ d=some (.dictI kvs)) (hz:kvs.length≤1000) (hk:(sget kvs k).isSome=true) (h:Q (upd σ d (some (.dictI (sdel kvs k))))):T2 c RU A delItem (.ref d) (.d (.int k)) σ (fun _ σ'=>Q σ'):=.mk fun F s E v u H r1 r2=>by
 have:v=.ref d:=r1
 subst this
 obtain ⟨_,nm,kvs',D,p⟩:=H.tr d _ ha
 unfold delItem
 refine wpAny_holding ?_
 refine wpAny_bind (wpAny_sequenceKey D.typeIs (by decide) ?_)
 refine wpAny_bind (wpAny_callSpecial?_slot (name:=Str.ofString "__delitem__") D.typeIs PySem.F.slot_dict_delitem
  (call_meetsIn PySem.F.slot_dict_delitem D.typeIs PySem.F.entry_dict_delitem (PySem.F.args_dict_delitem_2 _ _) (meets_dict_delitem_pairs (intKind c.prog c.w) d (KeyR.int F u r2)) ⟨kvs',D,(by rw [←p.length,sizeLine_eq];exact om95 hz),(by rw [ov_isSome (paired_sget (k:=k) p)];exact hk),fun h' hD hs=>?_⟩))
 have S:=H.set (o:=.dictI (sdel kvs k)) (h':=h') (tk:=s.toks+1) ha (fun b o hb e=>(hs.2 b hb).trans e) ⟨nm,_,hD,paired_sdel p⟩
 exact wpAny_pure ⟨F,_,(),trivial,S.1,S.2,h⟩
theorem D_len (hd:DictR c knd σ d kvs) (hz:kvs.length≤1000) (h:Q (.d (.int kvs.length)) σ):CallT c A (.builtin "len") [.ref d] σ Q:=.mk fun F s E vs H r=>by
 cases r with
 | cons r1 r =>
 cases r
 rename_i v
 have:v=.ref d:=r1
 subst this
 obtain ⟨⟨kvs',D,p⟩,hm⟩:=hd F s H
 have hlen:=p.length
 refine call_len_dict hm D (om218 hz hlen) ?_
 rw [←hlen]
 exact post_int H _ _ _ h
theorem T_dict0I {pos:Pos} (h:∀ a,σ a=none→Q (.ref a) (upd σ a (some (.dictI [])))):TV c A (eval (.Dict [] [] pos) env) σ Q:=.mk fun F s E H=>by
 refine wpAny_Dict_empty ?_
 have hf:=get_fresh s.heap (Nat.le_refl _)
 have S:=H.new (o:=.dictI []) (h':=s.heap.push { cls:=.type "dict",data:=.dict #[] }) (tk:=s.toks) hf (fun b o e=>Heap.get?_push_of_some _ e) ⟨H.newMod,[],Heap.DictOf.new _,.nil⟩
 refine ⟨F,_,.ref s.heap.objs.size,rfl,S.1,S.2,h _ ?_⟩
 cases e:σ s.heap.objs.size with
 | none=>rfl
 | some o=>exact absurd (H.lt e) (Nat.lt_irrefl _)
theorem T_dict0S {pos:Pos} (h:∀ a,σ a=none→Q (.ref a) (upd σ a (some (.dictS [])))):TV c A (eval (.Dict [] [] pos) env) σ Q:=.mk fun F s E H=>by
 refine wpAny_Dict_empty ?_
 have hf:=get_fresh s.heap (Nat.le_refl _)
 have S:=H.new (o:=.dictS []) (h':=s.heap.push { cls:=.type "dict",data:=.dict #[] }) (tk:=s.toks) hf (fun b o e=>Heap.get?_push_of_some _ e) ⟨H.newMod,[],Heap.DictOf.new _,.nil⟩
 refine ⟨F,_,.ref s.heap.objs.size,rfl,S.1,S.2,h _ ?_⟩
 cases e:σ s.heap.objs.size with
 | none=>rfl
 | some o=>exact absurd (H.lt e) (Nat.lt_irrefl _)
end
end Mine
end
section
namespace Mine
section
variable {c:Cfg} {A:Around} {F F' F1:FM} {σ σ' σ1:Sig} {s s' s1 s2:Shared} {env:Env} {Q:SV→Sig→Prop} {L:Addr} {cs:List (Str×Addr)} {m:Str→Option SV}
theorem T_globalB {x:Str} {pos:Pos} {v:Value} (e:nsIn c.K mainGlobals x=some none) (hv:bootBuiltins x=some v) (hn:x ≠ "__name__") (h:Q (.lit v) σ) (hg:env.globals=mainGlobals) (hb:env.builtins=builtinsNs) (hk:env.scope.kind=.function) (hx:env.kindOf x=some .globalImplicit) (hd:(x == ("__debug__":Str))=false) :
  TV c A (eval (.Name x pos) env) σ Q:=.mk fun F s E H =>
 Name_function_global hk hx (loadGlobal_builtin (env:=env) (by rw [hg];exact c.top.g.keeps H.old) (mg_none_of c.kin c.top.g e) (by rw [hb];exact c.top.b.keeps H.old) ((c.top.builtins x hn).trans hv) ⟨F,σ,.lit v,rfl,H,.refl ..,h⟩) hd
theorem O_indexS {x:SV} {k:Str} {ns:List Str} (hx:AsList σ x (strsL ns)) (hk:k∈ns) (hz:ns.length≤1000) (h:Q (.d (.int (ns.idxOf k:Nat))) σ):CallT c A (.builtin "list.index") [x,.d (.str k)] σ Q:=.mk fun F s E vs H r=>by
 cases r with
 | cons r1 r =>
 cases r with
 | cons r2 r =>
 cases r
 obtain ⟨t,rfl⟩:=rd_str r2
 obtain ⟨l,ws,n,rfl,g,p⟩:=hx.get H r1
 have hlen:=p.length
 rw [List.length_map] at hlen
 have hj:ns.idxOf k < ns.length:=List.idxOf_lt_length_iff.mpr hk
 have at_:∀ j (h1:j < ws.length) (h2:j < ns.length),isS k ws[j]=(ns[j] == k):=fun j h1 h2=>by
  obtain ⟨w,e,r⟩:=paired_get p (i:=j) (x:=.d (.str ns[j])) (by simp [h2])
  obtain ⟨t',rfl⟩:=rd_str r
  have:ws[j]=.str ns[j] t':=by rw [List.getElem?_eq_getElem h1] at e;exact Option.some.inj e
  rw [this];rfl
 refine call_meets PySem.F.slot_list_index ⟨_,g,rfl⟩ PySem.F.entry_list_index (PySem.F.args_list_index_2 _ _)
  (SeqAt.list_indexAt l ws.toArray n none #[] (.str k t) (isS k) (ns.idxOf k) (by simpa [←hlen] using hj) (om257 hz hlen hj) ?_ ?_) ⟨g,fun y hy=>?_,post_int H _ _ _ h⟩
 ·show isS k ws[ns.idxOf k]=true
  rw [at_ _ (om270 hlen hj) hj]
  simpa using List.getElem_idxOf hj
 ·intro j hjs hlt
  show isS k ws[j]=false
  rw [at_ j (by simpa using hjs) (om296 hlen hj hlt)]
  have q:=List.not_of_lt_findIdx (p:=(· == k)) (xs:=ns) (i:=j) hlt
  simpa using q
 ·obtain ⟨i,t',rfl⟩:=all_strs p y (by simpa using hy)
  exact (eqS _ _ _ _).at _ _
noncomputable def TAssign (c:Cfg) (A:Around) (env:Env):List Expr→List SV→Sig→(Sig→Prop)→Prop
 | [],[],σ,Q=>Q σ
 | t :: ts,x :: xs,σ,Q=>T1 c RU A (assign t env) x σ (fun _ σ'=>TAssign c A env ts xs σ' Q)
 | _,_,_,_=>False
theorem assign_order {E:Value→Shared→Prop} {F0:FM} {σ0:Sig} {s0:Shared} {Q:Sig→Prop}:∀ {ts:List Expr} {xs:List SV} {vs:List Value} {F:FM} {σ:Sig} {s:Shared},TAssign c A env ts xs σ Q→Paired (VRel F) xs vs→St c F σ s→Ext F0 σ0 s0 F σ s →
  wpAny c.M A (assignInOrder (ts.map fun t=>assign t env) vs) (Post c RU F0 σ0 s0 (fun _ σ'=>Q σ')) E s
 | [],[],_,F,σ,s,h,p,H,X=>by cases p;exact PyProof.Rows.assignInOrder_nil ⟨F,σ,(),trivial,H,X,h⟩
 | [],_ :: _,_,_,_,_,h,_,_,_=>nomatch h
 | _ :: _,[],_,_,_,_,h,_,_,_=>nomatch h
 | t :: ts,x :: xs,_,F,σ,s,h,p,H,X=>by
  cases p with
  | cons a b =>
   refine PyProof.Rows.assignInOrder_cons (wpAny_mono (h.run F s E _ H a) (fun _ s1 ⟨F1,σ1,_,_,H1,X1,q1⟩=>?_) fun _ _ e=>e)
   exact assign_order q1 (paired_mono (fun _ _=>VRel.mono X1.fle) b) H1 (X.trans X1)
theorem T_assName {x:Str} {p:Pos} {v:SV} {Q:Sig→Prop} (h:T1 c RU A (storeName env x) v σ (fun _ σ'=>Q σ')):T1 c RU A (assign (.Name x p) env) v σ (fun _ σ'=>Q σ'):=.mk fun F s E u H r=>wpAny_assign_Name (h.run F s E u H r)
theorem T_assTup {n:Nat} {elts:List Expr} {k:Nat} {pos:Pos} {x:SV} {xs:List SV} {Q:Sig→Prop} (R:Rm n A) (hx:AsTup x xs) (h:TAssign c A env elts xs σ Q)
  (hl:(assignEach elts env).length=xs.length) (hm:(assignEach elts env).map (·.2)=elts.map fun t=>assign t env) (hf:(assignEach elts env).findIdx? (·.1)=none):T1 c RU A (assign (.Tuple elts k pos) env) x σ (fun _ σ'=>Q σ'):=.mk fun F s E u H r=>by
 obtain ⟨l,vs,n,rfl,g,p⟩:=hx.get H r
 refine wpAny_assign_Tuple R.hh (isTu g) (by rw [hl,List.size_toArray,p.length]) hf fun h' he=>?_
 have S:=H.same (h':=h') (tk:=s.toks) (fun b o e=>he b o (Nat.ne_of_lt (Heap.lt_size e)) e)
 rw [hm]
 exact assign_order h p S.1 S.2
theorem T_assSub {o i:Expr} {pos:Pos} {v:SV} {Q:Sig→Prop} (h:TV c A (eval o env) σ (fun x σ1=>TV c A (eval i env) σ1 (fun y σ2=>T3 c RU A setItem x y v σ2 (fun _ σ3=>Q σ3)))):T1 c RU A (assign (.Subscript o i pos) env) v σ (fun _ σ'=>Q σ'):=.mk fun F s E u H r=>by
 rw [PySem.assign_Subscript]
 refine wpAny_bind (wpAny_holding (h.wp H fun ov s1 F1 σ1 x r1 H1 X1 q1=>wpAny_bind (wpAny_holding (q1.wp H1 fun iv s2 F2 σ2 y r2 H2 X2 q2=>wpAny_bind (wpAny_standAt (wpAny_bind (wpAny_holding (wpAny_mono (q2.run F2 s2 E ov iv u H2 (r1.mono X2.fle) r2 ((r.mono X1.fle).mono X2.fle)) (fun _ s3 ⟨F3,σ3,_,_,H3,X3,q3⟩=>?_) fun _ _ e=>e))))))))
 exact wpAny_releaseD ⟨F3,σ3,(),trivial,H3,(X1.trans X2).trans X3,q3⟩
theorem T_assignSub {o i e:Expr} {p' pos:Pos} {Q:SFlow→Sig→Prop}
  (h:TV c A (eval e env) σ (fun v σ0=>TV c A (eval o env) σ0 (fun x σ1=>TV c A (eval i env) σ1 (fun y σ2=>T3 c RU A setItem x y v σ2 (fun _ σ3=>Q .next σ3)))))
  (hs:swapsWith e (some (.Subscript o i p')) pos.line env=pure false):TF c A (exec (.Assign [.Subscript o i p'] e pos) env) σ Q:=.mk fun F s E H=>by
 refine wpAny_Assign_Subscript (h.wp H fun v s0 F0 σ0 z r0 H0 X0 q0=>q0.wp H0 fun ov s1 F1 σ1 x r1 H1 X1 q1=>q1.wp H1 fun iv s2 F2 σ2 y r2 H2 X2 q2=>?_) hs
 exact wpAny_mono (q2.run F2 s2 E ov iv v H2 (r1.mono X2.fle) r2 ((r0.mono X1.fle).mono X2.fle)) (fun _ s3 ⟨F3,σ3,_,_,H3,X3,q3⟩=>⟨F3,σ3,.next,rfl,H3,((X0.trans X1).trans X2).trans X3,q3⟩) fun _ _ e=>e
theorem T_assign2 {t₁ t₂ e:Expr} {pos:Pos} {Q:SFlow→Sig→Prop} (h:TV c A (eval e env) σ (fun v σ0=>T1 c RU A (assign t₁ env) v σ0 (fun _ σ1=>T1 c RU A (assign t₂ env) v σ1 (fun _ σ2=>Q .next σ2))))
  (h1:(assignEach [t₁,t₂] env).map (fun x=>x.2)=[assign t₁ env,assign t₂ env]) (h2:swappedStores [t₁,t₂] e env=pure none):TF c A (exec (.Assign [t₁,t₂] e pos) env) σ Q:=.mk fun F s E H=>by
 refine wpAny_Assign_two (h.wp H fun v s0 F0 σ0 z r0 H0 X0 q0=>wpAny_mono (q0.run F0 s0 E v H0 r0) (fun _ s1 ⟨F1,σ1,_,_,H1,X1,q1⟩=>wpAny_mono (q1.run F1 s1 E v H1 (r0.mono X1.fle)) (fun _ s2 ⟨F2,σ2,_,_,H2,X2,q2⟩=>?_) fun _ _ e=>e) fun _ _ e=>e) h1 h2
 exact ⟨F2,σ2,.next,rfl,H2,(X0.trans X1).trans X2,q2⟩
theorem T_augSub {o i e:Expr} {op:Operator} {p' pos:Pos} {Q:SFlow→Sig→Prop}
  (h:TV c A (eval o env) σ (fun x σ1=>TV c A (eval i env) σ1 (fun y σ2=>T2 c VRel A getItem x y σ2 (fun old σ3=>TV c A (eval e env) σ3 (fun v σ4=>T2 c VRel A (inplaceOp op) old v σ4 (fun new σ5=>T3 c RU A setItem x y new σ5 (fun _ σ6=>Q .next σ6)))))))
  (hs:∀ (ov iv new:Value),augStore i ov iv new=do
      holding [new,ov,iv] (setItem ov iv new)
      release [new,ov,iv] []
      pure Flow.next):TF c A (exec (.AugAssign (.Subscript o i p') op e pos) env) σ Q:=.mk fun F s E H=>by
 refine wpAny_AugAssign_SubscriptAny (h.wp H fun ov s1 F1 σ1 x r1 H1 X1 q1=>q1.wp H1 fun iv s2 F2 σ2 y r2 H2 X2 q2 =>
  wpAny_mono (q2.run F2 s2 E ov iv H2 (r1.mono X2.fle) r2) (fun old s3 ⟨F3,σ3,z,r3,H3,X3,q3⟩=>q3.wp H3 fun v s4 F4 σ4 u r4 H4 X4 q4 =>
   wpAny_mono (q4.run F4 s4 E old v H4 (r3.mono X4.fle) r4) (fun new s5 ⟨F5,σ5,z5,r5,H5,X5,q5⟩ =>
    wpAny_mono (q5.run F5 s5 E ov iv new H5 ((((r1.mono X2.fle).mono X3.fle).mono X4.fle).mono X5.fle) (((r2.mono X3.fle).mono X4.fle).mono X5.fle) r5) (fun _ s6 ⟨F6,σ6,_,_,H6,X6,q6⟩=>?_) fun _ _ e=>e) fun _ _ e=>e) fun _ _ e=>e) hs
 exact ⟨F6,σ6,.next,rfl,H6,((((X1.trans X2).trans X3).trans X4).trans X5).trans X6,q6⟩
theorem C_set0 (h:∀ a,σ a=none→Q (.ref a) (upd σ a (some (.setI (fun _=>false) 0)))):CallT c A (.type "set") [] σ Q:=.mk fun F s E vs H r=>by
 cases r
 refine call_set_0 fun led=>?_
 have hf:=get_fresh s.heap (Nat.le_refl _)
 have S:=H.new (o:=.setI (fun _=>false) 0) (h':=s.heap.push { cls:=.type "set",dict:=none,data:=.set #[] 0 (.fresh 0 0 led) }) (tk:=s.toks) hf (fun b o e=>Heap.get?_push_of_some _ e) (show Heap.SetOf _ _ _ _ _ from ⟨_,#[],0,_,Heap.get?_push_size _ rfl,⟨rfl,rfl,rfl⟩,rfl,fun e he=>by simp at he,fun k=>by simp,by decide,by rfl,rfl⟩)
 refine ⟨F,_,.ref s.heap.objs.size,rfl,S.1,S.2,h _ ?_⟩
 cases e:σ s.heap.objs.size with
 | none=>rfl
 | some o=>exact absurd (H.lt e) (Nat.lt_irrefl _)
theorem O_inSet {a:Addr} {S:Int→Bool} {n:Nat} {k:Int} (ha:Rd σ a (.setI S n)) (h:Q (.d (.bool (S k))) σ):T2 c VRel A (compareOp .In) (.d (.int k)) (.ref a) σ Q:=.mk fun F s E v u H r1 r2=>by
 obtain ⟨t,rfl⟩:=rd_int r1
 have:u=.ref a:=r2
 subst this
 exact wpAny_inSet_of (knd:=intKind c.prog c.w) (KeyR.int F _ r1) rfl (ha.holds H).2 (post_boolT H _ _ h)
theorem O_setadd {a:Addr} {S:Int→Bool} {n:Nat} {k:Int} (ha:σ a=some (.setI S n)) (hn:n≤50) (h:Q (.d .none) (upd σ a (some (.setI (fun k'=>S k' || decide (k'=k)) (if S k then n else n+1))))):CallT c A (.builtin "set.add") [.ref a,.d (.int k)] σ Q:=.mk fun F s E vs H r=>by
 cases r with
 | cons r1 r =>
 cases r with
 | cons r2 r =>
 cases r
 rename_i v u
 have:v=.ref a:=r1
 subst this
 obtain ⟨t,rfl⟩:=rd_int r2
 refine call_set_add (knd:=intKind c.prog c.w) (KeyR.int F _ r2) rfl (H.tr a _ ha).2 (by unfold scanBound;exact om116 hn) fun h' hs hS=>?_
 have S:=H.set (h':=h') (tk:=s.toks+1) ha (fun b o hb e=>(hs.2 b hb).trans e) (show Holds c F a (.setI (fun k'=>S k' || decide (k'=k)) (if S k then n else n+1)) h' from hS)
 exact ⟨F,_,.d .none,rel_none,S.1,S.2,h⟩
theorem type_set {a:Addr} {S:Int→Bool} {n:Nat} (ha:Rd σ a (.setI S n)):∀ F s v,St c F σ s→VRel F (.ref a) v→s.TypeIs v "set"∧∀ b,v=.ref b→∃ ob,s.heap.get? b=some ob∧ob.dict=none:=fun F s v H r=>by
 have:v=.ref a:=r
 subst this
 obtain ⟨_,hS⟩:=ha.holds H
 refine ⟨Heap.SetOf.typeIs hS,fun b e=>?_⟩
 cases e
 obtain ⟨o,es,ep,t,g,x,_⟩:=hS
 exact ⟨o,g,x.2.1⟩
theorem C_values {K:Type} [DecidableEq K] {knd:KeyKind c.prog c.w K} {d:Addr} {kvs:List (K×SV)} (hd:DictR c knd σ d kvs) (h:Q (.o { cls:=.type "dict_values",data:=.fields #[.ref d] }) σ):CallT c A (.builtin "dict.values") [.ref d] σ Q:=.mk fun F s E vs H r=>by
 cases r with
 | cons r1 r =>
 cases r
 rename_i v
 have:v=.ref d:=r1
 subst this
 obtain ⟨⟨kvs',D,p⟩,hm⟩:=hd F s H
 exact call_meetsIn PySem.F.slot_dict_values D.typeIs PySem.F.entry_dict_values (PySem.F.args_dict_values_1 _) (meets_dict_values knd d hm) ⟨⟨kvs',D⟩,newO H rfl _ h⟩
theorem C_items {K:Type} [DecidableEq K] {knd:KeyKind c.prog c.w K} {d:Addr} {kvs:List (K×SV)} (hd:DictR c knd σ d kvs) (h:Q (.o { cls:=.type "dict_items",data:=.fields #[.ref d] }) σ):CallT c A (.builtin "dict.items") [.ref d] σ Q:=.mk fun F s E vs H r=>by
 cases r with
 | cons r1 r =>
 cases r
 rename_i v
 have:v=.ref d:=r1
 subst this
 obtain ⟨⟨kvs',D,p⟩,hm⟩:=hd F s H
 exact call_meetsIn PySem.F.slot_dict_items D.typeIs PySem.F.entry_dict_items (PySem.F.args_dict_items_1 _) (meets_dict_items knd d hm) ⟨⟨kvs',D⟩,newO H rfl _ h⟩
end
end Mine
end
section
namespace Mine
noncomputable def mkm (l:List (Str×SV)):Str→Option SV:=fun x=>l.lookup x
noncomputable def Fits:List (Str×SV)→(Str→Option SV)→Prop
 | [],_=>True
 | (x,v) :: r,m=>m x=some v∧Fits r m
theorem fits_le:∀ {l:List (Str×SV)} {m:Str→Option SV},Fits l m→∀ x v,mkm l x=some v→m x=some v
 | [],_,_,_,_,e=>by simp [mkm] at e
 | (y,w) :: r,m,h,x,v,e=>by
  unfold mkm at e
  rw [List.lookup_cons] at e
  by_cases q:x=y
  ·subst q;simp at e;subst e;exact h.1
  ·rw [show (x == y)=false by simpa using q] at e
   exact fits_le h.2 x v e
section
variable {c:Cfg} {A:Around} {σ:Sig} {env:Env} {L:Addr} {cs:List (Str×Addr)} {m:Str→Option SV}
theorem t_fit {α β:Type} {Rv:FM→β→α→Prop} {t:Sem α} {Q:β→Sig→Prop} (l:List (Str×SV)) (h:Fits l m) (T:TG c Rv A t (fr σ L cs (mkm l)) Q):TG c Rv A t (fr σ L cs m) Q:=T.weaken (fits_le h)
variable {Q:SV→Sig→Prop}
theorem t_loc {x:Str} {pos:Pos} {v:SV} (hv:m x=some v) (h:Q v (fr σ L cs m)) (hc:autoParam (cs.lookup x=none) aR) (hL:autoParam (env.locals=L) aR) (hk:autoParam (env.scope.kind=.function) aR) (hl:autoParam (env.kindOf x=some .local) aR)
  (hd:autoParam ((x == ("__debug__":Str))=false) aR):TV c A (eval (.Name x pos) env) (fr σ L cs m) Q:=T_local hv h hc hL hk hl hd
theorem t_lload {x:Str} {v:SV} (hv:m x=some v) (h:Q v (fr σ L cs m)) (hc:autoParam (cs.lookup x=none) aR) (hL:autoParam (env.locals=L) aR) (hk:autoParam (env.scope.kind=.function) aR) (hl:autoParam (env.kindOf x=some .local) aR) :
  TV c A (loadName env x) (fr σ L cs m) Q:=T_loadLocal hv h hc hL hk hl
theorem t_st {x:Str} {v:SV} {Q:Sig→Prop} (h:Q (fr σ L cs (setm m x v))) (hc:autoParam (cs.lookup x=none) aR) (hL:autoParam (env.locals=L) aR) (hk:autoParam (env.scope.kind=.function) aR) (hl:autoParam (env.kindOf x=some .local) aR) :
  T1 c RU A (storeName env x) v (fr σ L cs m) (fun _ σ'=>Q σ'):=T_storeLocal h hc hL hk hl
theorem t_asN {x:Str} {p:Pos} {v:SV} {Q:Sig→Prop} (h:Q (fr σ L cs (setm m x v))) (hc:autoParam (cs.lookup x=none) aR) (hL:autoParam (env.locals=L) aR) (hk:autoParam (env.scope.kind=.function) aR) (hl:autoParam (env.kindOf x=some .local) aR) :
  T1 c RU A (assign (.Name x p) env) v (fr σ L cs m) (fun _ σ'=>Q σ'):=T_assName (T_storeLocal h hc hL hk hl)
theorem t_as {x:Str} {p' pos:Pos} {e:Expr} {Q:SFlow→Sig→Prop} (h:TV c A (eval e env) σ (fun v σ1=>T1 c RU A (storeName env x) v σ1 (fun _ σ2=>Q .next σ2))) (hs:autoParam (swapsWith e (some (.Name x p')) pos.line env=pure false) aR) :
  TF c A (exec (.Assign [.Name x p'] e pos) env) σ Q:=T_assign h hs
theorem t_ex {e:Expr} {pos:Pos} {Q:SFlow→Sig→Prop} (h:TV c A (eval e env) σ (fun _ σ1=>Q .next σ1)) (hi:autoParam (interactive env=false) aR) (hs:autoParam (swapsWith e none pos.line env=pure false) aR) :
  TF c A (exec (.Expr e pos) env) σ Q:=T_expr h hi hs
theorem t_glob {x:Str} {pos:Pos} {v:Value} (e:nsIn c.K mainGlobals x=some (some v)) (h:Q (.lit v) σ) (hg:autoParam (env.globals=mainGlobals) aR) (hk:autoParam (env.scope.kind=.function) aR) (hx:autoParam (env.kindOf x=some .globalImplicit) aR) (hd:autoParam ((x == ("__debug__":Str))=false) aR) :
  TV c A (eval (.Name x pos) env) σ Q:=T_global e h hg hk hx hd
theorem t_cmp {l r:Expr} {op:CmpOp} {pos:Pos} (h:TV c A (eval l env) σ (fun x σ1=>TV c A (eval r env) σ1 (fun y σ2=>T2 c VRel A (compareOp op) x y σ2 Q)))
  (hb:autoParam (behindInMarks op r=false) aR):TV c A (eval (.Compare l [op] [r] pos) env) σ Q:=T_cmp h hb
theorem t_isCmp {l r:Expr} {op:CmpOp} {pos:Pos} {whole:Sem Value} {Q:Bool→Sig→Prop}
  (h:TV c A (eval l env) σ (fun x σ1=>TV c A (eval r env) σ1 (fun y σ2=>T2 c VRel A (compareOp op) x y σ2 (fun z σ3=>Truth c A z σ3 Q)))) (hb:autoParam (behindInMarks op r=false) aR) :
  TB c A (PySem.isTrue (.Compare l [op] [r] pos) env whole) σ Q:=T_isCmp h hb
theorem t_isVal {e:Expr} {whole:Sem Value} {Q:Bool→Sig→Prop} (h:TV c A whole σ (fun x σ1=>Truth c A x σ1 Q))
  (hw:autoParam (PySem.isTrue e env whole=(do let v ←whole;standAt e.pos;holding [v] (truthy v))) aR):TB c A (PySem.isTrue e env whole) σ Q:=T_isVal h hw
theorem t_globI {x:Str} {pos:Pos} {i:Int} {t:Tok} (e:nsIn c.K mainGlobals x=some (some (.int i t))) (h:Q (.d (.int i)) σ) (hg:autoParam (env.globals=mainGlobals) aR) (hk:autoParam (env.scope.kind=.function) aR) (hx:autoParam (env.kindOf x=some .globalImplicit) aR) (hd:autoParam ((x == ("__debug__":Str))=false) aR) :
  TV c A (eval (.Name x pos) env) σ Q:=.mk fun F s E H =>
 Name_function_global hk hx (loadGlobal_global (env:=env) (by rw [hg];exact c.top.g.keeps H.old) (mg_of c.kin c.top.g e) ⟨F,σ,.d (.int i),rel_int i t,H,.refl ..,h⟩) hd
theorem asl_strs {ss:List Str}:AsList σ (.d (.list (ss.map PyData.str))) (strsL ss):=.inr ⟨_,rfl,by simp⟩
theorem asl_ints {ss:List Int}:AsList σ (.d (.list (ss.map PyData.int))) (intsL ss):=.inr ⟨_,rfl,by simp⟩
theorem qsl_ints {ss:List Int}:QList σ (.d (.list (ss.map PyData.int))) (intsL ss):=.inr ⟨_,rfl,by simp⟩
theorem t_a0 {f:Value} {pos:Pos} {Q:List SV→Sig→Prop} (h:Q [] σ):TArgs c A f [] pos env σ Q:=TA_nil h
theorem t_a1 {f:Value} {pos:Pos} {e:Expr} {Q:List SV→Sig→Prop} (h:TV c A (eval e env) σ (fun x σ1=>Q [x] σ1)) (he:autoParam (starEach [e] env=[(false,eval e env)]) aR):TArgs c A f [e] pos env σ Q :=
 TA_cons (T_spl_cons (h.mono fun _ _ q=>T_spl_nil q) he) he
theorem t_a2 {f:Value} {pos:Pos} {e e2:Expr} {Q:List SV→Sig→Prop} (h:TV c A (eval e env) σ (fun x σ1=>TV c A (eval e2 env) σ1 (fun y σ2=>Q [x,y] σ2))) (he:autoParam (starEach [e,e2] env=(false,eval e env) :: starEach [e2] env) aR) (he2:autoParam (starEach [e2] env=[(false,eval e2 env)]) aR):TArgs c A f [e,e2] pos env σ Q :=
 TA_cons (T_spl_cons (h.mono fun _ _ q=>T_spl_cons (q.mono fun _ _ q=>T_spl_nil q) he2) he) he
theorem t_a3 {f:Value} {pos:Pos} {e e2 e3:Expr} {Q:List SV→Sig→Prop} (h:TV c A (eval e env) σ (fun x σ1=>TV c A (eval e2 env) σ1 (fun y σ2=>TV c A (eval e3 env) σ2 (fun z σ3=>Q [x,y,z] σ3)))) (he:autoParam (starEach [e,e2,e3] env=(false,eval e env) :: starEach [e2,e3] env) aR) (he2:autoParam (starEach [e2,e3] env=(false,eval e2 env) :: starEach [e3] env) aR) (he3:autoParam (starEach [e3] env=[(false,eval e3 env)]) aR):TArgs c A f [e,e2,e3] pos env σ Q :=
 TA_cons (T_spl_cons (h.mono fun _ _ q=>T_spl_cons (q.mono fun _ _ q=>T_spl_cons (q.mono fun _ _ q=>T_spl_nil q) he3) he2) he) he
theorem t_callG {x:Str} {p pos:Pos} {args:List Expr} {v:Value} (e:nsIn c.K mainGlobals x=some (some v)) (hk:keepIn c.K v=true) (h:TArgs c A v args pos env σ (fun xs σ2=>CallT c A v xs σ2 Q))
  (hg:autoParam (env.globals=mainGlobals) aR) (hkf:autoParam (env.scope.kind=.function) aR) (hx:autoParam (env.kindOf x=some .globalImplicit) aR) (hd:autoParam ((x == ("__debug__":Str))=false) aR):TV c A (eval (.Call (.Name x p) args [] pos) env) σ Q :=
 T_callName (T_global e ⟨_,rfl,kept_K hk,h⟩ hg hkf hx hd)
theorem t_callB {x:Str} {p pos:Pos} {args:List Expr} {v:Value} (e:nsIn c.K mainGlobals x=some none) (hv:bootBuiltins x=some v) (hn:x ≠ "__name__") (hkp:Kept c v) (h:TArgs c A v args pos env σ (fun xs σ2=>CallT c A v xs σ2 Q))
  (hg:autoParam (env.globals=mainGlobals) aR) (hb:autoParam (env.builtins=builtinsNs) aR) (hkf:autoParam (env.scope.kind=.function) aR) (hx:autoParam (env.kindOf x=some .globalImplicit) aR) (hd:autoParam ((x == ("__debug__":Str))=false) aR):TV c A (eval (.Call (.Name x p) args [] pos) env) σ Q :=
 T_callName (T_globalB e hv hn ⟨_,rfl,hkp,h⟩ hg hb hkf hx hd)
structure MethOf (T:String) (name:Str) (id:String):Prop where
 pa:PlainAttrs T
 slot:Slot T name id
 hty:typeOf (.builtin id)=pure (.type "method_descriptor")
theorem m_append:MethOf "list" "append" "list.append":=⟨PySem.F.plainAttrs_list,PySem.F.slot_list_append,PySem.F.type_list_append⟩
theorem m_pop:MethOf "list" "pop" "list.pop":=⟨PySem.F.plainAttrs_list,PySem.F.slot_list_pop,PySem.F.type_list_pop⟩
theorem m_clear:MethOf "list" "clear" "list.clear":=⟨PySem.F.plainAttrs_list,PySem.F.slot_list_clear,PySem.F.type_list_clear⟩
theorem m_index:MethOf "list" "index" "list.index":=⟨PySem.F.plainAttrs_list,PySem.F.slot_list_index,PySem.F.type_list_index⟩
theorem m_indexS:MethOf "str" "index" "str.index":=⟨PySem.F.plainAttrs_str,PySem.F.slot_str_index,PySem.F.type_str_index⟩
theorem m_get:MethOf "dict" "get" "dict.get":=⟨PySem.F.plainAttrs_dict,PySem.F.slot_dict_get,PySem.F.type_dict_get⟩
theorem m_values:MethOf "dict" "values" "dict.values":=⟨PySem.F.plainAttrs_dict,PySem.F.slot_dict_values,PySem.F.type_dict_values⟩
theorem m_items:MethOf "dict" "items" "dict.items":=⟨PySem.F.plainAttrs_dict,PySem.F.slot_dict_items,PySem.F.type_dict_items⟩
theorem m_add:MethOf "set" "add" "set.add":=⟨PySem.F.plainAttrs_set,PySem.F.slot_set_add,PySem.F.type_set_add⟩
noncomputable def OfTy (c:Cfg) (σ:Sig) (x:SV) (T:String):Prop:=∀ F s v,St c F σ s→VRel F x v→s.TypeIs v T∧∀ a,v=.ref a→∃ ob,s.heap.get? a=some ob∧ob.dict=none
theorem oft_str {x:Str}:OfTy c σ (.d (.str x)) "str":=fun F s v _ r=>by
 obtain ⟨t,rfl⟩:=rd_str r
 exact ⟨typeIs_str s x t,fun a e=>by cases e⟩
theorem oft_list {x:SV} {xs:List SV} (h:AsList σ x xs):OfTy c σ x "list":=type_list h
theorem oft_dict {K:Type} [DecidableEq K] {knd:KeyKind c.prog c.w K} {d:Addr} {kvs:List (K×SV)} (h:DictR c knd σ d kvs):OfTy c σ (.ref d) "dict":=type_dict h
theorem oft_set {a:Addr} {S:Int→Bool} {n:Nat} (h:Rd σ a (.setI S n)):OfTy c σ (.ref a) "set":=type_set h
theorem t_meth {o:Expr} {name:Str} {apos pos:Pos} {args:List Expr} {T id:String} (M:MethOf T name id)
  (h:TV c A (eval o env) σ (fun x σ1=>OfTy c σ1 x T∧TArgs c A (.builtin id) args pos env σ1 (fun xs σ2=>CallT c A (.builtin id) (x :: xs) σ2 Q)))
  (hbase:autoParam (attributeBase o name env (eval o env)=eval o env) aR)
  (hfew:autoParam (((backTo pos (starEach args env)).all (fun x=>!x.1) && (backToKw pos (keywordEach [] env)).all (fun x=>x.1.isSome) && decide (args.length+([]:List Keyword).length+(if ([]:List Keyword).isEmpty then 0 else 1) < 30))=true) aR)
  (hline:autoParam ((apos.endLine == pos.line)=true) aR):TV c A (eval (.Call (.Attribute o name apos) args [] pos) env) σ Q:=T_meth h M.pa M.slot M.hty hbase hfew hline
theorem t_sub {value slice:Expr} {pos:Pos} {T id:String} (hl:typeLookup (.type T) "__getitem__"=pure (some (.builtin id)))
  (h:TV c A (eval value env) σ (fun x σ1=>TV c A (eval slice env) σ1 (fun y σ2=>(∀ F s v,St c F σ2 s→VRel F x v→s.TypeIs v T)∧T2 c VRel A getItem x y σ2 Q)))
  (hs:∀ o i,∃ ops,subscripted slice false o i=operate ops (getItem o i):=by exact fun _ _=>⟨_,rfl⟩):TV c A (eval (.Subscript value slice pos) env) σ Q:=T_sub T id h hl hs
end
end Mine
end
section
namespace Mine
section
variable {c:Cfg} {A:Around} {F F' F1:FM} {σ σ' σ1:Sig} {s s' s1 s2:Shared} {env:Env} {Q:SV→Sig→Prop} {L C:Addr} {cs:List (Str×Addr)} {m mc:Str→Option SV}
theorem t_cell {x:Str} {pos:Pos} {v:SV} {a:Addr} (hv:m x=some v) (ok:FrOk σ L cs) (h:Q v (fr σ L cs m)) (hc:autoParam (cs.lookup x=some a) aR) (hc':autoParam (env.cells.lookup x=some a) aR) (hk:autoParam (env.scope.kind=.function) aR) (hl:autoParam (env.kindOf x=some .cell) aR)
  (hd:autoParam ((x == ("__debug__":Str))=false) aR) (hd2:autoParam ((x == ("__classdict__":Str))=false) aR):TV c A (eval (.Name x pos) env) (fr σ L cs m) Q:=T_cell hv ok h hc hc' hk (.inl hl) hd hd2
theorem t_stC {x:Str} {v:SV} {a:Addr} {Q:Sig→Prop} (ok:FrOk σ L cs) (h:Q (fr σ L cs (setm m x v))) (hc:autoParam (cs.lookup x=some a) aR) (hc':autoParam (env.cells.lookup x=some a) aR) (hk:autoParam (env.scope.kind=.function) aR) (hl:autoParam (env.kindOf x=some .cell) aR) :
  T1 c RU A (storeName env x) v (fr σ L cs m) (fun _ σ'=>Q σ'):=T_storeCell ok h hc hc' hk hl
theorem frC_ok (hC:σ C=none):FrOk σ C []:=⟨hC,(fun _ hp=>by cases hp),List.Pairwise.nil,List.Pairwise.nil⟩
theorem t_free {x:Str} {pos:Pos} {v:SV} {a:Addr} (hv:m x=some v) (ok:FrOk σ L cs) (hC:fr σ L cs m C=none) (h:Q v (fr (fr σ L cs m) C [] mc)) (hc:autoParam (cs.lookup x=some a) aR) (hc':autoParam (env.cells.lookup x=some a) aR) (hk:autoParam (env.scope.kind=.function) aR) (hl:autoParam (env.kindOf x=some .cell) aR)
  (hd:autoParam ((x == ("__debug__":Str))=false) aR) (hd2:autoParam ((x == ("__classdict__":Str))=false) aR):TV c A (eval (.Name x pos) env) (fr (fr σ L cs m) C [] mc) Q :=
 T_cellAt (by rw [fr_some (frC_ok hC) (o:=.cell (m x)) (fr_cell ok hc),hv]) h hc' hk (.inl hl) hd hd2
theorem t_comp {α:Type} {ys:List α} {target:Expr} {ifs:List Expr} {elt iter:Expr} {scope:Scope} {pos:Pos} {cl:List (Str×Addr)} (e:α→SV) (g:α→Option PyData) (he:∀ a b,e a=e b→a=b)
  (h:TV c A (eval iter env) σ (fun x σ1=>ItOf c A target x σ1 (ys.map e)∧ys.length≤1000 ∧
   (∀ C,σ1 C=none→∀ y∈ys,CB c A target ifs elt (compEnvC scope cl C env) σ1 C (e y) ((g y).map SV.d))∧Q (.d (.list (ys.filterMap g))) σ1))
  (hclos:autoParam (closureFor scope env=pure cl) aR) (hcell:autoParam (∀ y∈scope.names,y.2≠.cell) aD) (hkind:autoParam (scope.kind=.function) aR)
  (hnames:autoParam (∀ y∈scope.names,y.2=.local→scope.names.lookup y.1=some .local) aD) (hs:∀ x,foldedSetIterable iter env x=pure x:=by exact fun _=>rfl) :
  TV c A (eval (.ListComp elt [⟨target,iter,ifs,0⟩] scope pos) env) σ Q:=by
 refine T_listcomp (h.mono fun x σ1 hh=>?_) hclos hcell hkind hnames hs
 obtain ⟨h1,h2,h3,h4⟩:=hh
 classical
 let g':SV→Option PyData:=fun v=>if h:∃ a,e a=v then g h.choose else none
 have hg:∀ a,g' (e a)=g a:=fun a=>by
  have hx:∃ b,e b=e a:=⟨a,rfl⟩
  show (if h:∃ b,e b=e a then g h.choose else none)=g a
  rw [dif_pos hx,he _ _ hx.choose_spec]
 refine ⟨ys.map e,g',h1,by rw [List.length_map];exact h2,fun C hC y hy=>?_,?_⟩
 ·obtain ⟨a,ha,rfl⟩:=List.mem_map.mp hy
  rw [hg];exact h3 C hC a ha
 ·rw [List.filterMap_map]
  have:(g' ∘ e)=g:=funext hg
  rw [this];exact h4
theorem inj_int:∀ a b:Int,SV.d (.int a)=SV.d (.int b)→a=b:=fun a b h=>by injection h with h;injection h
theorem opF {c:Cfg} {A:Around} {t:Sem Flow} {σ:Sig} {P:Sig→Prop} {Q:SFlow→Sig→Prop} (h:∀ P',(∀ σ1,P σ1→P' σ1)→TF c A t σ (ForEnd P' Q)):TF c A t σ (ForEnd P Q):=h P fun _ q=>q
theorem T_while {test:Expr} {body orelse:List Stmt} {pos:Pos} {Q:SFlow→Sig→Prop} (J:Nat→Sig→Prop) (n:Nat) (j0:J n σ)
  (step:∀ n σ',J n σ'→TB c A (PySem.isTrue test env (eval test env)) σ' (fun b σ1=>(b=true→TF c A (execs body env) σ1 (ForEnd (fun σ3=>∃ k,k < n∧J k σ3) Q))∧(b=false→TF c A (execs orelse env) σ1 Q))) :
  TF c A (exec (.While test body orelse pos) env) σ Q:=.mk fun F0 s0 E H0=>by
 refine wpAny_While ?_
 refine codeAny_whileLoop (fun n s=>∃ F σ1,St c F σ1 s∧Ext F0 σ s0 F σ1 s∧J n σ1) ?_ n ⟨F0,σ,H0,.refl ..,j0⟩
 rintro k s ⟨F,σ1,H,X,j⟩
 refine (step k σ1 j).wp H fun b s1 F1 σ2 b' r1 H1 X1 q1=>?_
 cases r1
 cases b with
 | false =>
  exact (q1.2 rfl).wp H1 fun f s2 F2 σ3 sf rf H2 X2 q2=>⟨F2,σ3,sf,rf,H2,(X.trans X1).trans X2,q2⟩
 | true =>
  refine (q1.1 rfl).wp H1 fun f s2 F2 σ3 sf rf H2 X2 q2=>?_
  have X3:=(X.trans X1).trans X2
  cases sf with
  | next=>cases rf;obtain ⟨k',hk,j'⟩:=q2;exact ⟨k',hk,F2,σ3,H2,X3,j'⟩
  | cont=>cases rf;obtain ⟨k',hk,j'⟩:=q2;exact ⟨k',hk,F2,σ3,H2,X3,j'⟩
  | brk=>cases rf;exact ⟨F2,σ3,.next,rfl,H2,X3,q2⟩
  | ret v=>obtain ⟨u,rfl,ru⟩:=rf;exact ⟨F2,σ3,.ret v,⟨u,rfl,ru⟩,H2,X3,q2⟩
end
end Mine
end
section
namespace Mine
section
variable {c:Cfg} {A:Around} {F F' F1:FM} {σ σ' σ1:Sig} {s s' s1 s2:Shared} {env:Env} {Q:SV→Sig→Prop} {L C:Addr} {cs:List (Str×Addr)} {m mc:Str→Option SV}
theorem St.adoptF {D:Addr} {ob:Obj} (H:St c F σ s) (h2:σ D=none) (h3:F D=none) (g:s.heap.get? D=some ob):St c (updF F D ob) σ s:=by
 have l:=updF_le (o:=ob) h3
 refine ⟨fun b x e=>l _ _ (H.base b x e),fun b x e=>?_,fun b x e=>⟨?_,(H.tr b x e).2.mono l⟩⟩
 ·by_cases q:b=D
  ·subst q;rw [updF_self] at e;cases e;exact g
  ·exact H.fz b x (by simpa [updF,q] using e)
 ·have q:b≠D:=fun q=>by rw [q,h2] at e;cases e
  simpa [updF,q] using (H.tr b x e).1
theorem St.deadσ (H:St c F σ s) {a:Addr} (h:s.heap.get? a=none):σ a=none:=by
 cases e:σ a with
 | none=>rfl
 | some o=>obtain ⟨ob,g⟩:=(H.tr a o e).2.alive;rw [h] at g;cases g
theorem St.deadF (H:St c F σ s) {a:Addr} (h:s.heap.get? a=none):F a=none:=by
 cases e:F a with
 | none=>rfl
 | some o=>have:=H.fz a o e;rw [h] at this;cases this
theorem ane {a b:Nat} (h:a≠b):@Ne Addr a b:=h
theorem nin2 {b x y:Nat} (h:¬(b∈([x,y]:List Addr))):b≠x∧b≠y:=⟨fun q=>h (by rw [q];exact .head _),fun q=>h (by rw [q];exact .tail _ (.head _))⟩
theorem nin2' {b x y:Nat} (h1:b≠x) (h2:b≠y):¬(b∈([x,y]:List Addr)):=fun h=>by
 rcases List.mem_cons.mp h with q | q
 ·exact h1 q
 ·exact h2 (List.mem_singleton.mp q)
theorem turned_new {wr:List Addr} {D:Addr} {ob:Obj} (H:St c F σ s) (hw:∀ b∈wr,σ b=none∧F b=none) {h':Heap} {tk:Nat} (hk:∀ b o,b∉wr→s.heap.get? b=some o→h'.get? b=some o) (hD:s.heap.get? D=none) (g:h'.get? D=some ob) :
  Turned c wr F σ s (updF F D ob) { s with heap:=h',toks:=tk } where
 st:=(turned_of H hw (h':=h') (tk:=tk) hk).st.adoptF (H.deadσ hD) (H.deadF hD) g
 le:=updF_le (H.deadF hD)
 keep:=hk
 same:=fun b o e=>by
  have q:b≠D:=fun q=>by rw [q,hD] at e;cases e
  simp [updF,q]
 rest:=rfl
noncomputable def enumL (ns:List Int):List SV:=ns.zipIdx.map fun p=>SV.d (.tuple [.int (p.2:Int),.int p.1])
theorem enumL_get {ns:List Int} {i:Nat} {y:SV} (h:(enumL ns)[i]?=some y):∃ n,ns[i]?=some n∧y=.d (.tuple [.int (i:Int),.int n]):=by
 unfold enumL at h
 rw [List.getElem?_map] at h
 obtain ⟨p,hp,rfl⟩:=Option.map_eq_some_iff.mp h
 rw [List.getElem?_zipIdx] at hp
 obtain ⟨n,hn,rfl⟩:=Option.map_eq_some_iff.mp hp
 exact ⟨n,hn,by simp⟩
theorem ite_enum {n:Nat} {w:Addr} {vs:List Value} {ns:List Int} {x:Str} {p p2 pos pos':Pos} {elts:List Expr} {k:Nat} (R:Rm n A) (hw:c.h₀.IsList w vs.toArray) (hI:IntsAre vs ns)
  (e:nsIn c.K mainGlobals "enumerate"=some none) (hv:m x=some (.ref w))
  (hc:autoParam (cs.lookup x=none) aR) (hL:autoParam (env.locals=L) aR) (hl:autoParam (env.kindOf x=some .local) aR) (hdx:autoParam ((x == ("__debug__":Str))=false) aR)
  (hg:autoParam (env.globals=mainGlobals) aR) (hb:autoParam (env.builtins=builtinsNs) aR) (hkf:autoParam (env.scope.kind=.function) aR) (hx:autoParam (env.kindOf "enumerate"=some .globalImplicit) aR)
  (he:autoParam (starEach [.Name x p2] env=[(false,eval (.Name x p2) env)]) aR) :
  ItE c A (.Tuple elts k pos') (.Call (.Name "enumerate" p) [.Name x p2] [] pos) env (fr σ L cs m) (enumL ns):=fun F s E Q H h=>by
 have hlen:=hI.length
 refine wpAny_Call_NameR (Name_function_global hkf hx (loadGlobal_builtin (env:=env) (v:=.type "enumerate") (by rw [hg];exact c.top.g.keeps H.old) (mg_none_of c.kin c.top.g e) (by rw [hb];exact c.top.b.keeps H.old) ((c.top.builtins _ (by decide)).trans (by rfl)) ?_) (by decide))
 obtain ⟨_,m',hn,hm⟩:=H.tr _ _ (fr_self σ L cs m)
 obtain ⟨v',ev,rv⟩:=hm x _ (by unfold hideC;rw [hc];exact hv)
 have:v'=.ref w:=rv
 subst this
 have hwl:s.heap.IsList w vs.toArray:=by
  obtain ⟨o,g,r⟩:=hw;exact ⟨o,H.old _ _ g,r⟩
 have hwo:∃ o,s.heap.get? w=some o:=let ⟨o,g,_⟩:=hwl;⟨o,g⟩
 have hwq:Quiet (fr σ L cs m w):=by
  obtain ⟨o,g,_⟩:=hw
  cases q:fr σ L cs m w with
  | none=>trivial
  | some z=>have:=(H.tr w z q).1;rw [H.base _ _ g] at this;cases this
 refine callWith_any (P:=c.K.In) (first:=[]) (kept_type "enumerate") ?_
 rw [he]
 refine evalArgs_plain (Calls.spliced_cons (wpAny_Name (wpAny_loadName_local hkf hl (hL▸hn) ev (Calls.spliced_nil ⟨H.kin,?_⟩)) hdx))
 refine call_enumerate_list hwl fun h' hen hli hsz hk=>wpAny_pyIter_enum hen ?_
 generalize hi0:s.heap.objs.size=it at hen hli hsz
 have hnw:∀ o,s.heap.get? w=some o→w < it:=fun o g=>hi0▸Heap.lt_size g
 have hwit:w < it:=let ⟨o,g⟩:=hwo;hnw o g
 refine h (it+1) [it+1,it,w] [it+1,it] (fun i h=>(∃ old,IsEnum h (it+1) it i old)∧h.IsListIter it w i∧h.IsList w vs.toArray) h' s.toks ?_ ⟨⟨_,hen⟩,hli,?_⟩ (fun b hb=>?_) (fun b hb=>?_) hk
 ·refine ⟨fun b hb=>?_,fun i h1 h2 hW hf=>?_,fun i h1 hW b hb=>?_,fun i y F2 σ2 s2 Q2 E2 hy hl2 H2 hw2 hW hq=>?_,fun s2 Q2 E2 hW hq=>?_,fun s2 Q2 E2 hW hq=>?_⟩
  ·rcases List.mem_cons.mp hb with q | q
   ·rw [q];exact .head _
   ·rw [List.mem_singleton.mp q];exact .tail _ (.head _)
  ·obtain ⟨⟨old,a⟩,⟨o2,g2,r2⟩,⟨o3,g3,r3⟩⟩:=hW
   exact ⟨⟨old,hf _ (by simp) _ a⟩,⟨o2,hf _ (by simp) _ g2,r2⟩,⟨o3,hf _ (by simp) _ g3,r3⟩⟩
  ·obtain ⟨⟨old,a⟩,⟨o2,g2,r2⟩,⟨o3,g3,r3⟩⟩:=hW
   simp at hb
   rcases hb with rfl | rfl | rfl
   ·exact ⟨_,a⟩
   ·exact ⟨_,g2⟩
   ·exact ⟨_,g3⟩
  ·obtain ⟨⟨old,a⟩,hli2,hwl2⟩:=hW
   obtain ⟨n',hn',rfl⟩:=enumL_get hy
   obtain ⟨v,t,hv2,rfl⟩:∃ v t,vs[i]?=some v∧v=.int n' t:=by
    obtain ⟨v,hv,r⟩:=paired_get (ints_of (F:=F2) hI) (i:=i) (x:=.d (.int n')) (by simp [hn'])
    obtain ⟨t,rfl⟩:=rd_int r
    exact ⟨_,t,hv,rfl⟩
   refine wpAny_pyNext_enum_item a hli2 hwl2 (x:=.int n' t) (by simpa using hv2) (ane (Nat.succ_ne_self it)) fun h3 b1 b2 b3 b4 b5=>⟨_,rfl,?_⟩
   refine wpAny_letOwnedTupleGo_enum b1 fun h4 c1 c2=>?_
   have hfr:=get_fresh s2.heap (Nat.le_refl _)
   have ie:it+1 < s2.heap.objs.size:=Heap.lt_size a
   have k4:∀ b o,b∉[it+1,it]→s2.heap.get? b=some o→h4.get? b=some o:=fun b o hb e=>(c2.2 b (nin2 hb).1).trans (b5 b o (nin2 hb).1 (nin2 hb).2 e)
   have g4:h4.get? s2.heap.objs.size=some (tupObj [.int i s2.toks,.int n' t] 0):=(c2.2 _ (ane (Nat.ne_of_gt ie))).trans b3
   refine hq _ (.ref s2.heap.objs.size) _ ?_ (turned_new (tk:=s2.toks+1) H2 hw2 k4 hfr g4) ⟨⟨_,by exact_mod_cast c1⟩,?_,?_⟩
   ·simp only [VRel,RD,RDs]
    exact ⟨_,_,0,rfl,updF_self ..,_,_,rfl,⟨_,rfl⟩,_,_,rfl,⟨_,rfl⟩,rfl⟩
   ·obtain ⟨o,g,r⟩:=b2;exact ⟨o,(c2.2 _ (ane (Nat.ne_of_lt (Nat.lt_succ_self it)))).trans g,r⟩
   ·obtain ⟨o,g,r⟩:=hwl2;exact ⟨o,k4 _ _ (nin2' (Nat.ne_of_lt (Nat.lt_succ_of_lt hwit)) (Nat.ne_of_lt hwit)) g,r⟩
  ·obtain ⟨⟨old,a⟩,hli2,hwl2⟩:=hW
   have hln:(enumL ns).length=vs.length:=by simp [enumL,hlen]
   refine wpAny_pyNext_enum_end R.hh a hli2 hwl2 (by rw [hln];simp) fun h3 hx=>⟨rfl,hq h3 s2.toks fun b o hb e=>hx b o (nin2 hb).2 e⟩
  ·obtain ⟨⟨old,a⟩,hli2,hwl2⟩:=hW
   exact wpAny_pyIter_enum a hq
 ·obtain ⟨o,g,r⟩:=hwl;exact ⟨o,hk _ _ g,r⟩
 ·simp at hb
  rcases hb with rfl | rfl
  ·exact get_fresh _ (om181 hi0)
  ·exact get_fresh _ (om182 hi0)
 ·simp at hb
  rcases hb with rfl | rfl | rfl
  ·exact .inl (by simp)
  ·exact .inl (by simp)
  ·exact .inr ⟨hwq,hwo⟩
end
end Mine
end
section
namespace Mine
theorem upd_upd (σ:Sig) (a:Addr) (x y:Option SObj):upd (upd σ a x) a y=upd σ a y:=by
 funext b
 by_cases q:b=a
 ·subst q;rw [upd_self,upd_self]
 ·rw [upd_ne _ _ q,upd_ne _ _ q,upd_ne _ _ q]
theorem upd_id {σ:Sig} {a:Addr} {o:Option SObj} (h:σ a=o):upd σ a o=σ:=by
 funext b
 by_cases q:b=a
 ·subst q;rw [upd_self,h]
 ·rw [upd_ne _ _ q]
theorem upd_comm (σ:Sig) {a b:Addr} (x y:Option SObj) (h:a≠b):upd (upd σ a x) b y=upd (upd σ b y) a x:=by
 funext k
 by_cases q:k=a
 ·subst q;rw [upd_self,upd_ne _ _ h,upd_self]
 ·by_cases r:k=b
  ·subst r;rw [upd_self,upd_ne _ _ q,upd_self]
  ·rw [upd_ne _ _ r,upd_ne _ _ q,upd_ne _ _ q,upd_ne _ _ r]
section
variable {c:Cfg} {A:Around} {F:FM} {σ:Sig} {s:Shared} {env:Env} {Q:SV→Sig→Prop} {L:Addr} {cs:List (Str×Addr)} {m m':Str→Option SV} {α β:Type} {Rv:FM→β→α→Prop} {t:Sem α} {P:β→Sig→Prop}
theorem FrOk.re {a:Addr} {o o':SObj} (ok:FrOk (upd σ a (some o)) L cs):FrOk (upd σ a (some o')) L cs:=by
 have:=ok.set (some o') (upd_self ..);rwa [upd_upd] at this
structure NewIn (σ:Sig) (L:Addr) (cs:List (Str×Addr)) (m:Str→Option SV) (a:Addr) (o:SObj):Prop where
 whole:fr σ L cs m a=none
 free:σ a=none
 ok:FrOk (upd σ a (some o)) L cs
theorem newIn {a:Addr} {o:SObj} (ok:FrOk σ L cs) (h:fr σ L cs m a=none):NewIn σ L cs m a o:=⟨h,(fr_none h).2.2,ok.new _ h⟩
theorem t_list0 {pos:Pos} (ok:FrOk σ L cs) (h:∀ a,NewIn σ L cs m a (.list [])→Q (.ref a) (fr (upd σ a (some (.list []))) L cs m)):TV c A (eval (.List [] pos) env) (fr σ L cs m) Q :=
 T_list (T_spl_nil ⟨Nat.zero_le _,fun a ha=>by rw [upd_fr_none _ ha];exact h a (newIn ok ha)⟩)
theorem t_listV {elts:List Expr} {pos:Pos} {xs:List SV} (ok:FrOk σ L cs) (hx:TVs c A (spliced (backTo pos (starEach elts env))) (fr σ L cs m) (fun ys σ1=>ys=xs∧σ1=fr σ L cs m)) (hz:xs.length≤1000) (h:∀ a,NewIn σ L cs m a (.list xs)→Q (.ref a) (fr (upd σ a (some (.list xs))) L cs m)):TV c A (eval (.List elts pos) env) (fr σ L cs m) Q :=
 T_list (hx.mono fun ys σ1 ⟨e1,e2⟩=>by subst e1;subst e2;exact ⟨hz,fun a ha=>by rw [upd_fr_none _ ha];exact h a (newIn ok ha)⟩)
theorem t_dict0I {pos:Pos} (ok:FrOk σ L cs) (h:∀ a,NewIn σ L cs m a (.dictI [])→Q (.ref a) (fr (upd σ a (some (.dictI []))) L cs m)):TV c A (eval (.Dict [] [] pos) env) (fr σ L cs m) Q :=
 T_dict0I fun a ha=>by rw [upd_fr_none _ ha];exact h a (newIn ok ha)
theorem t_dict0S {pos:Pos} (ok:FrOk σ L cs) (h:∀ a,NewIn σ L cs m a (.dictS [])→Q (.ref a) (fr (upd σ a (some (.dictS []))) L cs m)):TV c A (eval (.Dict [] [] pos) env) (fr σ L cs m) Q :=
 T_dict0S fun a ha=>by rw [upd_fr_none _ ha];exact h a (newIn ok ha)
theorem c_set0 (ok:FrOk σ L cs) (h:∀ a,NewIn σ L cs m a (.setI (fun _=>false) 0)→Q (.ref a) (fr (upd σ a (some (.setI (fun _=>false) 0))) L cs m)):CallT c A (.type "set") [] (fr σ L cs m) Q :=
 C_set0 fun a ha=>by rw [upd_fr_none _ ha];exact h a (newIn ok ha)
theorem o_append {l:Addr} {xs:List SV} {x:SV} (ok:FrOk σ L cs) (ha:σ l=some (.list xs)) (hz:xs.length≤1000) (h:FrOk (upd σ l (some (.list (xs++[x])))) L cs→Q (.d .none) (fr (upd σ l (some (.list (xs++[x])))) L cs m)):CallT c A (.builtin "list.append") [.ref l,x] (fr σ L cs m) Q :=
 O_append (fr_some ok ha) hz (by rw [upd_fr_some ok _ ha];exact h (ok.set _ ha))
theorem o_clear {l:Addr} {xs:List SV} (ok:FrOk σ L cs) (ha:σ l=some (.list xs)) (hz:xs.length≤1000) (h:FrOk (upd σ l (some (.list []))) L cs→Q (.d .none) (fr (upd σ l (some (.list []))) L cs m)):CallT c A (.builtin "list.clear") [.ref l] (fr σ L cs m) Q :=
 O_clear (fr_some ok ha) hz (by rw [upd_fr_some ok _ ha];exact h (ok.set _ ha))
theorem o_pop {l:Addr} {xs:List SV} {x:SV} (ok:FrOk σ L cs) (ha:σ l=some (.list (xs++[x]))) (hz:xs.length≤1000) (h:FrOk (upd σ l (some (.list xs))) L cs→Q x (fr (upd σ l (some (.list xs))) L cs m)):CallT c A (.builtin "list.pop") [.ref l] (fr σ L cs m) Q :=
 O_pop (fr_some ok ha) hz (by rw [upd_fr_some ok _ ha];exact h (ok.set _ ha))
theorem s_il {l:Addr} {y:SV} {xs:List SV} {k:Int} {Q:Sig→Prop} (ok:FrOk σ L cs) (ha:σ l=some (.ilist xs)) (h0:0≤k) (hz:xs.length≤1000) (hk:k.toNat < xs.length) (h:FrOk (upd σ l (some (.ilist (xs.set k.toNat y)))) L cs→Q (fr (upd σ l (some (.ilist (xs.set k.toNat y)))) L cs m)) :
  T3 c RU A setItem (.ref l) (.d (.int k)) y (fr σ L cs m) (fun _ σ'=>Q σ'):=S_il (fr_some ok ha) h0 hz hk (by rw [upd_fr_some ok _ ha];exact h (ok.set _ ha))
theorem s_dictI {d:Addr} {x:SV} {kvs:List (Int×SV)} {k:Int} {Q:Sig→Prop} (ok:FrOk σ L cs) (ha:σ d=some (.dictI kvs)) (hz:kvs.length≤1000) (h:FrOk (upd σ d (some (.dictI (sset kvs k x)))) L cs→Q (fr (upd σ d (some (.dictI (sset kvs k x)))) L cs m)) :
  T3 c RU A setItem (.ref d) (.d (.int k)) x (fr σ L cs m) (fun _ σ'=>Q σ'):=S_dictI (fr_some ok ha) hz (by rw [upd_fr_some ok _ ha];exact h (ok.set _ ha))
theorem s_dictS {d:Addr} {x:SV} {kvs:List (Str×SV)} {k:Str} {Q:Sig→Prop} (ok:FrOk σ L cs) (ha:σ d=some (.dictS kvs)) (hz:kvs.length≤1000) (h:FrOk (upd σ d (some (.dictS (sset kvs k x)))) L cs→Q (fr (upd σ d (some (.dictS (sset kvs k x)))) L cs m)) :
  T3 c RU A setItem (.ref d) (.d (.str k)) x (fr σ L cs m) (fun _ σ'=>Q σ'):=S_dictS (fr_some ok ha) hz (by rw [upd_fr_some ok _ ha];exact h (ok.set _ ha))
theorem del_dictI {d:Addr} {kvs:List (Int×SV)} {k:Int} {Q:Sig→Prop} (ok:FrOk σ L cs) (ha:σ d=some (.dictI kvs)) (hz:kvs.length≤1000) (hk:(sget kvs k).isSome=true) (h:FrOk (upd σ d (some (.dictI (sdel kvs k)))) L cs→Q (fr (upd σ d (some (.dictI (sdel kvs k)))) L cs m)):T2 c RU A delItem (.ref d) (.d (.int k)) (fr σ L cs m) (fun _ σ'=>Q σ') :=
 Del_dictI (fr_some ok ha) hz hk (by rw [upd_fr_some ok _ ha];exact h (ok.set _ ha))
theorem o_setadd {a:Addr} {S:Int→Bool} {n:Nat} {k:Int} (ok:FrOk σ L cs) (ha:σ a=some (.setI S n)) (hn:n≤50) (h:FrOk (upd σ a (some (.setI (fun k'=>S k' || decide (k'=k)) (if S k then n else n+1)))) L cs→Q (.d .none) (fr (upd σ a (some (.setI (fun k'=>S k' || decide (k'=k)) (if S k then n else n+1)))) L cs m)):CallT c A (.builtin "set.add") [.ref a,.d (.int k)] (fr σ L cs m) Q :=
 O_setadd (fr_some ok ha) hn (by rw [upd_fr_some ok _ ha];exact h (ok.set _ ha))
theorem t_toI {a:Addr} {xs:List SV} (ok:FrOk σ L cs) (ha:σ a=some (.list xs)) (h:FrOk (upd σ a (some (.ilist xs))) L cs→TG c Rv A t (fr (upd σ a (some (.ilist xs))) L cs m) P):TG c Rv A t (fr σ L cs m) P :=
 TG.toI (fr_some ok ha) (by rw [upd_fr_some ok _ ha];exact h (ok.set _ ha))
theorem t_drop {a:Addr} {o:SObj} (ok:FrOk σ L cs) (ha:σ a=some o) (hr:o.isRo=false) (h:FrOk (upd σ a none) L cs→TG c Rv A t (fr (upd σ a none) L cs m) P):TG c Rv A t (fr σ L cs m) P :=
 TG.drop a (fun o' e=>by rw [fr_some ok ha] at e;cases e;exact hr) (by rw [upd_fr_some ok _ ha];exact h (ok.set _ ha))
theorem fr_retype (h:∀ x v',m' x=some v'→∃ v,m x=some v∧∀ u,VRel F v u→VRel F v' u) (H:St c F (fr σ L cs m) s):St c F (fr σ L cs m') s∧Ext F (fr σ L cs m) s F (fr σ L cs m') s:=by
 refine ⟨⟨H.base,H.fz,fun b o e=>?_⟩,⟨.refl F,fun _ _ _ e=>e,fun b x e=>⟨x,e⟩,fun b x _ e=>⟨?_,rfl⟩,rfl⟩⟩
 ·unfold fr at e
  by_cases q:b=L
  ·rw [if_pos q] at e
   cases e
   subst q
   obtain ⟨h1,m1,h2,h3⟩:=H.tr _ _ (fr_self σ b cs m)
   refine ⟨h1,m1,h2,fun x v ex=>?_⟩
   unfold hideC at ex h3
   split at ex
   ·cases ex
   ·rename_i hx
    obtain ⟨v0,e0,r0⟩:=h _ _ ex
    obtain ⟨u,eu,ru⟩:=h3 x v0 (by rw [if_neg hx];exact e0)
    exact ⟨u,eu,r0 u ru⟩
  ·rw [if_neg q] at e
   have hh:=H.tr b
   unfold fr at hh
   rw [if_neg q] at hh
   cases w:cs.find? (fun p=>p.2 == b) with
   | none=>rw [w] at e hh;exact hh o e
   | some p =>
    rw [w] at e hh
    cases e
    obtain ⟨h1,v1,h2,h3⟩:=hh _ rfl
    refine ⟨h1,v1,h2,fun x ex=>?_⟩
    obtain ⟨v0,e0,r0⟩:=h _ _ ex
    obtain ⟨u,eu,ru⟩:=h3 v0 e0
    exact ⟨u,eu,r0 u ru⟩
 ·unfold fr at e ⊢
  by_cases q:b=L
  ·rw [if_pos q] at e;cases e
  ·rw [if_neg q] at e ⊢
   rw [if_neg q]
   cases w:cs.find? (fun p=>p.2 == b) with
   | none=>rfl
   | some p=>rw [w] at e;cases e
noncomputable def FitsF (a:Addr) (ds:List PyData):List (Str×SV)→(Str→Option SV)→Prop
 | [],_=>True
 | (x,v) :: r,m=>(m x=some v∨(m x=some (.ref a)∧v=.d (.list ds)))∧FitsF a ds r m
theorem fitsF_le {a:Addr} {ds:List PyData}:∀ {l:List (Str×SV)} {m:Str→Option SV},FitsF a ds l m→∀ x v,mkm l x=some v→m x=some v∨(m x=some (.ref a)∧v=.d (.list ds))
 | [],_,_,_,_,e=>by simp [mkm] at e
 | (y,w) :: r,m,h,x,v,e=>by
  unfold mkm at e
  rw [List.lookup_cons] at e
  by_cases q:x=y
  ·subst q;simp at e;subst e;exact h.1
  ·rw [show (x == y)=false by simpa using q] at e
   exact fitsF_le h.2 x v e
theorem t_freeze {a:Addr} {ds:List PyData} (l:List (Str×SV)) (ok:FrOk σ L cs) (ha:σ a=some (.list (ds.map SV.d))) (hm:FitsF a ds l m) (h:FrOk (upd σ a none) L cs→TG c Rv A t (fr (upd σ a none) L cs (mkm l)) P):TG c Rv A t (fr σ L cs m) P :=
 TG.freeze (fr_some ok ha) fun F s E H r=>by
  rw [upd_fr_some ok _ ha] at H ⊢
  obtain ⟨H2,X2⟩:=fr_retype (m':=mkm l) (fun x v' e=>by
   rcases fitsF_le hm x v' e with q | ⟨q,rfl⟩
   ·exact ⟨v',q,fun u r=>r⟩
   ·exact ⟨_,q,fun u ru=>by have:u=.ref a:=ru;subst this;exact r⟩) H
  exact wpAny_mono ((h (ok.set _ ha)).run F s E H2) (fun _ _ p=>p.lift X2) fun _ _ e=>e
inductive ForQ (c:Cfg) (A:Around) (target:Expr) (body:List Stmt) (env:Env) (Q:SFlow→Sig→Prop) (x:SV) (σ1:Sig):Prop
 | mk (xs:List SV) (J:Nat→Sig→Prop) (it:ItOf c A target x σ1 xs) (j0:J 0 σ1) (h:∀ i y σ',xs[i]?=some y→J i σ'→T1 c RU A (assign target env) y σ' (fun _ σ2=>TF c A (execs body env) σ2 (ForEnd (J (i+1)) Q))) (d:∀ σ',J xs.length σ'→Q .next σ'):ForQ c A target body env Q x σ1
theorem t_for {target iter:Expr} {body:List Stmt} {pos:Pos} {Q:SFlow→Sig→Prop}
  (h:TV c A (eval iter env) σ (ForQ c A target body env Q))
  (hs:∀ x,foldedSetIterable iter env x=pure x:=by exact fun _=>rfl):TF c A (exec (.For target iter body [] pos) env) σ Q:=T_for (h.mono fun _ _ ⟨xs,J,a,b,d,e⟩=>⟨xs,J,a,b,d,e⟩) hs
theorem it_ints {n:Nat} {ys:List Int} {target:Expr} (R:Rm n A) (ht:NameT target):ItOf c A target (.d (.list (ys.map PyData.int))) σ (ys.map fun k=>SV.d (.int k)):=it_list R qsl_ints (.inl ht)
theorem D_fnC {f:Addr} {body:List Stmt} {n:Nat} {xs:List SV} {name qual:Str} {params:Arguments} {scope:Scope} {dV kV doc pm cdv ct oc:Value} {an od:Option Addr} {osl:Array (Option Value)} (bs:List (Str×SV)) (cs:Addr→List (Str×Addr))
  (ho:c.K.lookup f=some ⟨oc,od,.func (fnOf name qual params body scope dV kV doc pm an cdv ct),osl⟩) (hcd:codeIn c.K cdv qual=true) (R:Rm (n+1) A)
  (hp:∀ F vs,Paired (VRel F) xs vs→∃ binds,(∀ S,peek c.K S (bindArgs (fnOf name qual params body scope dV kV doc pm an cdv ct) ⟨vs,[]⟩)=some binds)∧Paired (KV F) bs binds)
  (h:∀ L,FrOk σ L (cs L)→TF c (A.deeper (envOfC qual scope L f cdv)) (execs body (envOfC qual scope L f cdv)) (fr σ L (cs L) (mkm bs)) (RetQ L (cs L) Q))
  (hcs:∀ L,csOf scope L=cs L)
  (hb:∀ L,∀ y∈bs,scope.names.lookup y.1=some .local∨(scope.names.lookup y.1=some .cell∧((csOf scope L).lookup y.1).isSome=true))
  (hnd:((cellsFrom 0 scope.names []).map (·.1)).Nodup) (hnames:(scope.names.map (·.1)).Nodup) (nb:List Str) (hbe:bs.map (·.1)=nb) (hbn':nb.Nodup)
  (hco:autoParam (scope.isCoroutine=false) aR) (hgen:autoParam (scope.isGenerator=false) aR) (hk:autoParam (scope.kind=.function) aR):CodeT c A (.ref f) xs σ Q :=
 D_fnK bs ho hcd R hp (fun L ok=>by
  rw [hcs L] at ok ⊢
  refine TG.weaken ?_ (h L ok)
  intro x v e
  have hbn:(bs.map (·.1)).Nodup:=hbe▸hbn'
  clear h hp hb hbe
  suffices ∀ (bs:List (Str×SV)) (m:Str→Option SV),(bs.map (·.1)).Nodup→(mkm bs x=some v∨(mkm bs x=none∧m x=some v))→bindAll bs m x=some v from this bs _ hbn (.inl e)
  intro bs
  induction bs with
  | nil =>
   intro m _ h
   rcases h with h | h
   ·simp [mkm] at h
   ·exact h.2
  | cons p r ih =>
   obtain ⟨y,w⟩:=p
   intro m hn h
   rw [List.map_cons,List.nodup_cons] at hn
   refine ih _ hn.2 ?_
   unfold mkm at h ⊢
   rw [List.lookup_cons] at h
   by_cases q:x=y
   ·subst q
    simp at h
    subst h
    refine .inr ⟨?_,setm_self ..⟩
    cases e2:r.lookup x with
    | none=>rfl
    | some z=>exact absurd (List.mem_map.mpr ⟨_,lookup_mem e2,rfl⟩) hn.1
   ·rw [show (x == y)=false by simpa using q] at h
    rw [setm_ne _ _ q];exact h) hb hnd hnames hco hgen hk
theorem C_fnC {f:Addr} {body:List Stmt} {n:Nat} {xs:List SV} {name qual:Str} {params:Arguments} {scope:Scope} {dV kV doc pm cdv ct oc:Value} {an od:Option Addr} {osl:Array (Option Value)} (bs:List (Str×SV)) (cs:Addr→List (Str×Addr))
  (ho:c.K.lookup f=some ⟨oc,od,.func (fnOf name qual params body scope dV kV doc pm an cdv ct),osl⟩) (hcd:codeIn c.K cdv qual=true) (R:Rm (n+1) A)
  (hp:∀ F vs,Paired (VRel F) xs vs→∃ binds,(∀ S,peek c.K S (bindArgs (fnOf name qual params body scope dV kV doc pm an cdv ct) ⟨vs,[]⟩)=some binds)∧Paired (KV F) bs binds)
  (h:∀ L,FrOk σ L (cs L)→TF c (A.deeper (envOfC qual scope L f cdv)) (execs body (envOfC qual scope L f cdv)) (fr σ L (cs L) (mkm bs)) (RetQ L (cs L) Q))
  (hcs:∀ L,csOf scope L=cs L)
  (hb:∀ L,∀ y∈bs,scope.names.lookup y.1=some .local∨(scope.names.lookup y.1=some .cell∧((csOf scope L).lookup y.1).isSome=true))
  (hnd:((cellsFrom 0 scope.names []).map (·.1)).Nodup) (hnames:(scope.names.map (·.1)).Nodup) (nb:List Str) (hbe:bs.map (·.1)=nb) (hbn':nb.Nodup)
  (hco:autoParam (scope.isCoroutine=false) aR) (hgen:autoParam (scope.isGenerator=false) aR) (hk:autoParam (scope.kind=.function) aR):CallT c A (.ref f) xs σ Q :=
 CodeT.call <| D_fnK bs ho hcd R hp (fun L ok=>by
  rw [hcs L] at ok ⊢
  refine TG.weaken ?_ (h L ok)
  intro x v e
  have hbn:(bs.map (·.1)).Nodup:=hbe▸hbn'
  clear h hp hb hbe
  suffices ∀ (bs:List (Str×SV)) (m:Str→Option SV),(bs.map (·.1)).Nodup→(mkm bs x=some v∨(mkm bs x=none∧m x=some v))→bindAll bs m x=some v from this bs _ hbn (.inl e)
  intro bs
  induction bs with
  | nil =>
   intro m _ h
   rcases h with h | h
   ·simp [mkm] at h
   ·exact h.2
  | cons p r ih =>
   obtain ⟨y,w⟩:=p
   intro m hn h
   rw [List.map_cons,List.nodup_cons] at hn
   refine ih _ hn.2 ?_
   unfold mkm at h ⊢
   rw [List.lookup_cons] at h
   by_cases q:x=y
   ·subst q
    simp at h
    subst h
    refine .inr ⟨?_,setm_self ..⟩
    cases e2:r.lookup x with
    | none=>rfl
    | some z=>exact absurd (List.mem_map.mpr ⟨_,lookup_mem e2,rfl⟩) hn.1
   ·rw [show (x == y)=false by simpa using q] at h
    rw [setm_ne _ _ q];exact h) hb hnd hnames hco hgen hk
end
end Mine
end
section
namespace Mine
theorem fr_comm {σ:Sig} {L C:Addr} {cs:List (Str×Addr)} {m mc:Str→Option SV} (h1:C≠L) (h2:∀ p∈cs,p.2≠C):fr (fr σ L cs m) C [] mc=fr (fr σ C [] mc) L cs m:=by
 funext b
 by_cases q:b=C
 ·subst q
  rw [fr_self,fr_other h1 h2,fr_self]
 ·rw [fr_other q (by simp)]
  unfold fr
  by_cases r:b=L
  ·rw [if_pos r,if_pos r]
  ·rw [if_neg r,if_neg r]
   split
   ·rfl
   ·rw [if_neg q];rfl
section
variable {c:Cfg} {A:Around} {F F' F1:FM} {σ σ' σ0 σ1:Sig} {s s' s1 s2:Shared} {env:Env} {I L:Addr} {fp wr:List Addr} {xs:List SV} {W:Nat→Heap→Prop} {target:Expr} {cs:List (Str×Addr)}
theorem comp_out' {C:Addr} {m:Str→Option SV} {h':Heap} (H:St c F (fr σ1 C [] m) s) (X:Ext F1 σ0 s1 F (fr σ1 C [] m) s) (hC:s1.heap.get? C=none) (hσ:σ1 C=none) (hs:Heap.SameBut C s.heap h') :
  St c F σ1 { s with heap:=h' }∧Ext F1 σ0 s1 F σ1 { s with heap:=h' }:=by
 have hFC:F C=none:=(H.tr C _ (fr_self ..)).1
 have hfr:∀ b,b≠C→fr σ1 C [] m b=σ1 b:=fun b hb=>fr_other hb (fun _ h=>by cases h)
 refine ⟨⟨H.base,fun b o e=>(hs.2 b (fun q=>by rw [q,hFC] at e;cases e)).trans (H.fz b o e),fun b o e=>?_⟩,⟨X.fle,fun b o q e=>?_,fun b o e=>?_,fun b o e q=>⟨?_,(X.prov b o e q).2⟩,by rw [X.rest]⟩⟩
 ·have hb:b≠C:=fun q=>by rw [q,hσ] at e;cases e
  have:=H.tr b o (by rw [hfr b hb];exact e)
  exact ⟨this.1,this.2.at fun ob g=>(hs.2 b hb).trans g⟩
 ·have hb:b≠C:=fun q=>by rw [q,hC] at e;cases e
  exact (hs.2 b hb).trans (X.keep b o q e)
 ·have hb:b≠C:=fun q=>by rw [q,hC] at e;cases e
  obtain ⟨o',e'⟩:=X.alive b o e
  exact ⟨o',(hs.2 b hb).trans e'⟩
 ·have hb:b≠C:=fun q=>by rw [q,hC] at e;cases e
  rw [←hfr b hb];exact (X.prov b o e q).1
theorem comp_core {F0:FM} {σ0:Sig} {s0:Shared} {ifs:List Expr} {elt iter:Expr} {scope:Scope} {pos:Pos} {cl:List (Str×Addr)} {v:Value} {x:SV} {g:SV→Option PyData} {E:Value→Shared→Prop} {RR:Value→Addr→Result→Shared→Prop}
  (H1:St c F1 σ1 s1) (r1:VRel F1 x v)
  (hit:ItOf c A target x σ1 xs) (hz:xs.length≤1000)
  (body:∀ C,σ1 C=none→∀ y∈xs,CB c A target ifs elt (compEnvC scope cl C env) σ1 C y ((g y).map SV.d))
  (hcell:∀ y∈scope.names,y.2≠.cell) (hkind:scope.kind=.function)
  (hRR:∀ D C F' m vs n s',s1.heap.get? D=none→s1.heap.get? C=none→D≠C→St c F' (fr σ1 C [] m) s'→Ext F1 σ1 s1 F' (fr σ1 C [] m) s'→F' D=none→s'.heap.get? D=some (listObj vs n)→Paired (VRel F') ((xs.filterMap g).map SV.d) vs→RR (.ref D) C (.ok .next) s') :
  wpAny c.M A (pyIter v) (fun it s₂=>wpAny c.M A (newList []) (fun acc s₃=>wpAny c.M A (newFunctionEnv scope env.globals cl [] env.qual none .none (some env)) (fun cenv s₄ =>
   codeAny c.M A (.compStart (.ListComp elt [⟨target,iter,ifs,0⟩] scope pos) 0 it acc { cenv with scope:=relabel scope env }) (RR acc cenv.locals) s₄) E s₃) E s₂) E s1:=by
 refine hit F1 s1 E v _ H1 r1 fun I fp wr W h' tk K hw hd hq hk=>?_
 have B0:=Btw.start (tk:=tk) H1 K hw hd hq hk
 have hD1:∀ a,h'.objs.size≤a→s1.heap.get? a=none:=fun a ha=>by
  cases e:s1.heap.get? a with
  | none=>rfl
  | some o=>have z:a < h'.objs.size:=Heap.lt_size (hk a o e);omega
 refine wpAny_newObj_type (wpAny_newFunctionEnv hcell (by intro y hy;simp at hy) (fun h₁ hns₁ hsb₁=>?_) hkind)
 dsimp only at hns₁ hsb₁ ⊢
 generalize hH2:h'.push { cls:=.type "list",dict:=none,data:=.seq ([]:List Value).toArray }=H2 at hns₁ hsb₁ ⊢
 have hCs:H2.objs.size=h'.objs.size+1:=by rw [←hH2,Heap.size_push]
 have hDC:h'.objs.size≠H2.objs.size:=by exact om206 hCs
 have old:∀ b o,h'.get? b=some o→h₁.get? b=some o:=fun b o e=>hsb₁.extBut b o (by
  have z:b < h'.objs.size:=Heap.lt_size e
  exact Nat.ne_of_lt (Nat.lt_trans z (show h'.objs.size < H2.objs.size by exact om205 hCs))) (Heap.get?_push_of_some _ (hH2▸Heap.get?_push_of_some _ e))
 have gD:h₁.get? h'.objs.size=some (listObj [] 0):=hsb₁.extBut _ _ hDC (Heap.get?_push_of_some _ (hH2▸Heap.get?_push_size _ rfl))
 have hC1:=hD1 H2.objs.size (om207 hCs)
 have hDd:=hD1 h'.objs.size (Nat.le_refl _)
 have S:=B0.st.new (h':=h₁) (tk:=tk+([]:List (Str×Value)).length) (a:=H2.objs.size) (o:=.ns (hideC [] fun _=>none)) (by
  show h'.get? _=none
  exact get_fresh _ (show h'.objs.size≤H2.objs.size by exact om207 hCs)) old ⟨_,hns₁,fun x v e=>by simp [hideC] at e⟩
 have hfr0:upd σ1 H2.objs.size (some (.ns (hideC [] fun _=>none)))=fr σ1 H2.objs.size [] (fun _=>none):=by
  funext b
  by_cases q:b=H2.objs.size
  ·subst q;rw [upd_self,fr_self]
  ·rw [upd_ne _ _ q,fr_other q (fun _ h=>by cases h)]
 rw [hfr0] at S
 have B1:=B0.step K S.2 S.1
 have hDf:h'.objs.size∉fp:=fun hm=>by
  obtain ⟨o,e⟩:=K.live 0 _ hw _ hm
  exact absurd (Heap.lt_size e) (Nat.lt_irrefl _)
 have loop:∀ s₂:Shared,s₂={ s1 with heap:=h₁,toks:=tk+([]:List (Str×Value)).length } →
   codeAny c.M A (.compLoop (.ListComp elt [⟨target,iter,ifs,0⟩] scope pos) 0 (.ref I) (.ref h'.objs.size) (compEnvC scope cl H2.objs.size env)) (RR (.ref h'.objs.size) H2.objs.size) s₂:=by
  rintro s₂ rfl
  exact comp_loop K (.refl _) hd hDf hDd (H1.deadσ hDd) hDC hz (body _ (H1.deadσ hC1)) B1 ⟨0,gD⟩ (H1.deadF hDd) fun F' m vs n s' H' X' fD gD' p=>hRR _ _ F' m vs n s' hDd hC1 hDC H' X' fD gD' p
 exact codeAny_compStart_list (loop _ rfl) (K.self _ _ _ (K.frame 0 _ _ hw fun b hb o e=>old b o e) (loop _ rfl))
inductive AsCompQ (c:Cfg) (A:Around) (L:Addr) (cs:List (Str×Addr)) (target:Expr) (ifs:List Expr) (elt:Expr) (ce:Addr→Env) (x:Str) {α:Type} (ys:List α) (e:α→SV) (g:α→Option PyData) (Q:SFlow→Sig→Prop) (it:SV) (σ1:Sig):Prop
 | mk (σ2:Sig) (m2:Str→Option SV) (h0:σ1=fr σ2 L cs m2) (h1:ItOf c A target it σ1 (ys.map e)) (h2:ys.length≤1000) (h3:∀ C,σ1 C=none→∀ y∈ys,CB c A target ifs elt (ce C) σ1 C (e y) ((g y).map SV.d)) (h4:Q .next (fr σ2 L cs (setm m2 x (.d (.list (ys.filterMap g)))))):AsCompQ c A L cs target ifs elt ce x ys e g Q it σ1
theorem t_asComp {α:Type} {ys:List α} {x:Str} {p' spos:Pos} {ifs:List Expr} {elt iter:Expr} {scope:Scope} {pos:Pos} {cl:List (Str×Addr)} {Q:SFlow→Sig→Prop} (e:α→SV) (g:α→Option PyData) (he:∀ a b,e a=e b→a=b)
  (h:TV c A (eval iter env) σ (AsCompQ c A L cs target ifs elt (fun C=>compEnvC scope cl C env) x ys e g Q))
  (hsw:autoParam (swapsWith (.ListComp elt [⟨target,iter,ifs,0⟩] scope pos) (some (.Name x p')) spos.line env=pure true) aR)
  (hclos:autoParam (closureFor scope env=pure cl) aR) (hcell:autoParam (∀ y∈scope.names,y.2≠.cell) aD) (hkind:autoParam (scope.kind=.function) aR)
  (hnames:autoParam (∀ y∈scope.names,y.2=.local→scope.names.lookup y.1=some .local) aD) (hs:∀ x,foldedSetIterable iter env x=pure x:=by exact fun _=>rfl)
  (hc:autoParam (cs.lookup x=none) aR) (hL:autoParam (env.locals=L) aR) (hk:autoParam (env.scope.kind=.function) aR) (hl:autoParam (env.kindOf x=some .local) aR) :
  TF c A (exec (.Assign [.Name x p'] (.ListComp elt [⟨target,iter,ifs,0⟩] scope pos) spos) env) σ Q:=.mk fun F0 s0 E H0=>by
 rw [exec_Assign_Name_used _ _ _ _ hsw]
 refine wpAny_bind (wpAny_standAt (wpAny_bind ?_))
 show wpAny _ A (do let _ ←comprehension (.ListComp elt [⟨target,iter,ifs,0⟩] scope pos) scope env _ (newList []) false (eval iter env) (some (assign (.Name x p') env))) _ _ s0
 refine wpAny_bind (wpAny_mono (wpAny_comprehension_free (use:=some (assign (.Name x p') env)) (Q:=fun _ s'=>Post c RF F0 σ s0 Q Flow.next s') rfl hs hclos hkind hnames (h.wp H0 fun v s1 F1 σ1 it r1 H1 X1 q1=>?_)) (fun _ s' hq=>wpAny_pure (wpAny_pure hq)) fun _ _ e=>e)
 obtain ⟨σ2,m2,rfl,hit,hz,body,q⟩:=q1
 classical
 let g':SV→Option PyData:=fun v=>if h:∃ a,e a=v then g h.choose else none
 have hg:∀ a,g' (e a)=g a:=fun a=>by
  have hx:∃ b,e b=e a:=⟨a,rfl⟩
  show (if h:∃ b,e b=e a then g h.choose else none)=g a
  rw [dif_pos hx,he _ _ hx.choose_spec]
 have hmap:(ys.map e).filterMap g'=ys.filterMap g:=by
  rw [List.filterMap_map]
  have:(g' ∘ e)=g:=funext hg
  rw [this]
 refine comp_core (g:=g') (F0:=F0) (σ0:=σ) (s0:=s0) (RR:=fun acc C=>compPost c.M A E (some (assign (.Name x p') env)) (fun _ s'=>Post c RF F0 σ s0 Q Flow.next s') acc C) H1 r1 hit (by rw [List.length_map];exact hz) (fun C hC y hy=>by
  obtain ⟨a,ha,rfl⟩:=List.mem_map.mp hy
  rw [hg];exact body C hC a ha) hcell hkind ?_
 intro D C F' m vs n s' hD1 hC1 hDC H' X' fD gD' p
 rw [hmap] at p
 have hσC:=H1.deadσ hC1
 obtain ⟨hCL,hCc,hσ2C⟩:=fr_none hσC
 have hσD:fr (fr σ2 L cs m2) C [] m D=none:=by rw [fr_other hDC (fun _ h=>by cases h)];exact H1.deadσ hD1
 obtain ⟨l,Hf,Xf⟩:=adopt (D:=D) H' X' hD1 hσD fD gD'
 have hd:VRel (updF F' D (listObj vs n)) (.d (.list (ys.filterMap g))) (.ref D):=by
  simp only [VRel,RD]
  exact ⟨_,vs,n,rfl,updF_self ..,(rds_of_paired p).mono l⟩
 show wpAny _ A (assign (.Name x p') env (.ref D)) _ _ _
 rw [fr_comm hCL hCc] at Hf Xf
 have T:=t_asN (c:=c) (A:=A) (σ:=fr σ2 C [] m) (L:=L) (cs:=cs) (m:=m2) (env:=env) (x:=x) (p:=p') (v:=.d (.list (ys.filterMap g))) (Q:=fun σ3=>σ3=fr (fr σ2 C [] m) L cs (setm m2 x (.d (.list (ys.filterMap g))))) rfl hc hL hk hl
 refine wpAny_mono (T.run _ s' _ _ Hf hd) (fun _ s2 p2=>?_) fun _ _ e=>e
 obtain ⟨F2,σ3,_,_,H2,X2,rfl⟩:=p2
 have X02:=Xf.trans X2
 rw [←fr_comm hCL hCc] at H2 X02
 obtain ⟨_,mC,hn,_⟩:=H2.tr _ _ (fr_self _ C [] m)
 refine ⟨mC,hn,fun h'' hs''=>?_⟩
 have hσ':fr σ2 L cs (setm m2 x (.d (.list (ys.filterMap g)))) C=none:=by rw [fr_other hCL hCc];exact hσ2C
 obtain ⟨H3,X3⟩:=comp_out' H2 X02 hC1 hσ' hs''
 exact ⟨F2,_,.next,rfl,H3,X1.trans X3,q⟩
end
end Mine
end
section
namespace Mine
section
variable {c:Cfg} {A:Around} {F F' F1:FM} {σ σ' σ0 σ1:Sig} {s s' s1 s2:Shared} {env:Env} {L:Addr} {target:Expr} {cs:List (Str×Addr)} {Q:SV→Sig→Prop}
theorem filterMap_cong {α β:Type} {f g:α→Option β}:∀ {l:List α},(∀ a∈l,f a=g a)→l.filterMap f=l.filterMap g:=fun {l}=>by
 induction l with
 | nil=>exact fun _=>rfl
 | cons y r ih =>
  intro h
  have h2:=ih fun a ha=>h a (List.mem_cons_of_mem y ha)
  simp only [List.filterMap_cons,h y (.head _),h2]
theorem comp_pick {α:Type} {ys:List α} (e:α→SV) (g:α→Option PyData) (he:∀ a∈ys,∀ b∈ys,e a=e b→g a=g b) :
  ∃ g':SV→Option PyData,(∀ a∈ys,g' (e a)=g a)∧(ys.map e).filterMap g'=ys.filterMap g:=by
 classical
 let g':SV→Option PyData:=fun v=>if h:∃ a,a∈ys∧e a=v then g h.choose else none
 have hg:∀ a∈ys,g' (e a)=g a:=fun a ha=>by
  have hx:∃ b,b∈ys∧e b=e a:=⟨a,ha,rfl⟩
  show (if h:∃ b,b∈ys∧e b=e a then g h.choose else none)=g a
  rw [dif_pos hx]
  exact he _ hx.choose_spec.1 _ ha hx.choose_spec.2
 refine ⟨g',hg,?_⟩
 rw [List.filterMap_map]
 exact filterMap_cong fun a ha=>hg a ha
theorem t_compM {α:Type} {ys:List α} {ifs:List Expr} {elt iter:Expr} {scope:Scope} {pos:Pos} {cl:List (Str×Addr)} (e:α→SV) (g:α→Option PyData) (he:∀ a∈ys,∀ b∈ys,e a=e b→g a=g b)
  (h:TV c A (eval iter env) σ (fun x σ1=>ItOf c A target x σ1 (ys.map e)∧ys.length≤1000 ∧
   (∀ C,σ1 C=none→∀ y∈ys,CB c A target ifs elt (compEnvC scope cl C env) σ1 C (e y) ((g y).map SV.d))∧Q (.d (.list (ys.filterMap g))) σ1))
  (hclos:autoParam (closureFor scope env=pure cl) aR) (hcell:autoParam (∀ y∈scope.names,y.2≠.cell) aD) (hkind:autoParam (scope.kind=.function) aR)
  (hnames:autoParam (∀ y∈scope.names,y.2=.local→scope.names.lookup y.1=some .local) aD) (hs:∀ x,foldedSetIterable iter env x=pure x:=by exact fun _=>rfl) :
  TV c A (eval (.ListComp elt [⟨target,iter,ifs,0⟩] scope pos) env) σ Q:=by
 refine T_listcomp (h.mono fun x σ1 hh=>?_) hclos hcell hkind hnames hs
 obtain ⟨h1,h2,h3,h4⟩:=hh
 obtain ⟨g',hg,hm⟩:=comp_pick e g he
 refine ⟨ys.map e,g',h1,by rw [List.length_map];exact h2,fun C hC y hy=>?_,?_⟩
 ·obtain ⟨a,ha,rfl⟩:=List.mem_map.mp hy
  rw [hg a ha];exact h3 C hC a ha
 ·rw [hm];exact h4
theorem t_asCompM {α:Type} {ys:List α} {x:Str} {p' spos:Pos} {ifs:List Expr} {elt iter:Expr} {scope:Scope} {pos:Pos} {cl:List (Str×Addr)} {Q:SFlow→Sig→Prop} (e:α→SV) (g:α→Option PyData) (he:∀ a∈ys,∀ b∈ys,e a=e b→g a=g b)
  (h:TV c A (eval iter env) σ (AsCompQ c A L cs target ifs elt (fun C=>compEnvC scope cl C env) x ys e g Q))
  (hsw:autoParam (swapsWith (.ListComp elt [⟨target,iter,ifs,0⟩] scope pos) (some (.Name x p')) spos.line env=pure true) aR)
  (hclos:autoParam (closureFor scope env=pure cl) aR) (hcell:autoParam (∀ y∈scope.names,y.2≠.cell) aD) (hkind:autoParam (scope.kind=.function) aR)
  (hnames:autoParam (∀ y∈scope.names,y.2=.local→scope.names.lookup y.1=some .local) aD) (hs:∀ x,foldedSetIterable iter env x=pure x:=by exact fun _=>rfl)
  (hc:autoParam (cs.lookup x=none) aR) (hL:autoParam (env.locals=L) aR) (hk:autoParam (env.scope.kind=.function) aR) (hl:autoParam (env.kindOf x=some .local) aR) :
  TF c A (exec (.Assign [.Name x p'] (.ListComp elt [⟨target,iter,ifs,0⟩] scope pos) spos) env) σ Q:=by
 obtain ⟨g',hg,hm⟩:=comp_pick e g he
 refine t_asComp (L:=L) (cs:=cs) (ys:=ys.map e) id g' (fun _ _ h=>h) ?_ hsw hclos hcell hkind hnames hs hc hL hk hl
 refine h.mono fun it σ1 hh=>?_
 obtain ⟨σ2,m2,h0,h1,h2,h3,h4⟩:=hh
 refine ⟨σ2,m2,h0,by simpa using h1,by simpa using h2,fun C hC y hy=>?_,by rw [hm];exact h4⟩
 obtain ⟨a,ha,rfl⟩:=List.mem_map.mp hy
 rw [hg a ha];exact h3 C hC a ha
theorem shaped_nil:SeqAt.shaped (.list [])=true:=by rfl
theorem depthAll0 {ds:List PyData} (h:∀ d∈ds,d.depth=0):PyData.depthAll ds=0:=by
 induction ds with
 | nil=>simp only [PyData.depthAll]
 | cons d r ih =>
  simp only [PyData.depthAll]
  rw [h d (.head _),ih fun x hx=>h x (.tail _ hx)];rfl
theorem eqv_nil {ds:List PyData}:(PyData.list ds).eqv (.list [])=ds.isEmpty:=by
 cases ds <;> simp [PyData.eqv,PyData.eqvAll]
noncomputable def flat0 (d:PyData):Prop:=d.canLay0=true∧d.depth=0
theorem flat0_int {i:Int}:flat0 (.int i):=⟨by simp only [PyData.canLay0],by simp only [PyData.depth]⟩
theorem shaped_flat {ds:List PyData} (h:∀ d∈ds,flat0 d):SeqAt.shaped (.list ds)=true:=by
 have h1:PyData.canLayAll0 ds=true:=by
  induction ds with
  | nil=>simp only [PyData.canLayAll0]
  | cons d r ih =>
   simp only [PyData.canLayAll0]
   rw [(h d (.head _)).1,ih fun x hx=>h x (.tail _ hx)];rfl
 have h2:=depthAll0 fun d hd=>(h d hd).2
 unfold SeqAt.shaped
 rw [show (PyData.list ds).canLay0=true by simp only [PyData.canLay0];exact h1,show (PyData.list ds).depth=1 by simp only [PyData.depth];rw [h2]]
 rfl
theorem O_eqNil {n:Nat} {ds:List PyData} (R:Rm n A) (hd:∀ d∈ds,flat0 d) (h:Q (.d (.bool ds.isEmpty)) σ):T2 c VRel A (compareOp .Eq) (.d (.list ds)) (.d (.list [])) σ Q :=
 O_eqD R (shaped_flat hd) shaped_nil (by rw [eqv_nil];exact h)
theorem O_neNil {n:Nat} {ds:List PyData} (R:Rm n A) (hd:∀ d∈ds,flat0 d) (h:Q (.d (.bool (!ds.isEmpty))) σ):T2 c VRel A (compareOp .NotEq) (.d (.list ds)) (.d (.list [])) σ Q :=
 O_neD R (shaped_flat hd) shaped_nil (by rw [eqv_nil];exact h)
noncomputable abbrev RKV (F:FM) (ps:List (Str×SV)) (vs:List (Value×Value)):Prop:=Paired (fun p q=>(∃ t,q.1=Value.str p.1 t)∧VRel F p.2 q.2) ps vs
noncomputable abbrev TP (c:Cfg) (A:Around) (ks:List (Option Expr)) (vs:List Expr) (env:Env) (pos:Pos) (σ:Sig) (Q:List (Str×SV)→Sig→Prop):Prop:=TG c RKV A (evalPairs (pairTrees ks vs env pos)) σ Q
theorem TP_nil {pos:Pos} {Q:List (Str×SV)→Sig→Prop} (h:Q [] σ):TP c A [] [] env pos σ Q:=.mk fun F s E H=>pairTrees_nil_walk ⟨F,σ,[],.nil,H,.refl ..,h⟩
theorem TP_cons {k v:Expr} {x:Str} {ks:List (Option Expr)} {vs:List Expr} {pos:Pos} {Q:List (Str×SV)→Sig→Prop} (h:TV c A (eval k env) σ (fun kx σ1=>kx=.d (.str x)∧TV c A (eval v env) σ1 (fun y σ2=>TP c A ks vs env pos σ2 (fun r σ3=>Q ((x,y) :: r) σ3)))) :
  TP c A (some k :: ks) (v :: vs) env pos σ Q:=.mk fun F s E H =>
 pairTrees_cons_walk (h.wp H fun kv s1 F1 σ1 kx r1 H1 X1 q1=>by
  obtain ⟨rfl,q1⟩:=q1
  refine q1.wp H1 fun vv s2 F2 σ2 y r2 H2 X2 q2=>q2.wp H2 fun r s3 F3 σ3 ps r3 H3 X3 q3=>?_
  obtain ⟨t,rfl⟩:=rd_str r1
  exact ⟨F3,σ3,(x,y) :: ps,.cons ⟨⟨t,rfl⟩,r2.mono X3.fle⟩ r3,H3,(X1.trans X2).trans X3,q3⟩)
theorem carries_of {F:FM} {ps:List (Str×SV)} {vs:List (Value×Value)} (p:RKV F ps vs):∃ kvs,Carries (strKind c.prog c.w) vs kvs∧Paired (KV F) ps kvs:=by
 induction p with
 | nil=>exact ⟨[],trivial,.nil⟩
 | @cons x q _ _ a b ih =>
  obtain ⟨⟨t,e⟩,a⟩:=a
  obtain ⟨k,v⟩:=q
  obtain ⟨kvs,h1,h2⟩:=ih
  dsimp only at e
  subst e
  exact ⟨(x.1,v) :: kvs,⟨strKind_is c.prog c.w x.1 t,rfl,h1⟩,.cons ⟨rfl,a⟩ h2⟩
theorem paired_merged {F:FM} {ps:List (Str×SV)} {kvs:List (Str×Value)} (h:Paired (KV F) ps kvs):Paired (KV F) (ps.foldl (fun acc kv=>sset acc kv.1 kv.2) []) (merged [] kvs):=by
 unfold merged
 suffices ∀ (a:List (Str×SV)) (b:List (Str×Value)),Paired (KV F) a b→Paired (KV F) (ps.foldl (fun acc kv=>sset acc kv.1 kv.2) a) (kvs.foldl (fun acc kv=>stored acc kv.1 kv.2) b) from this _ _ .nil
 induction h with
 | nil=>exact fun a b h=>h
 | cons x r ih =>
  rename_i p q ps kvs
  intro a b h
  rw [List.foldl_cons,List.foldl_cons]
  refine ih _ _ ?_
  have e:p.1=q.1:=x.1
  rw [e];exact paired_sset x.2 h
theorem T_dictD {keys:List (Option Expr)} {values:List Expr} {pos:Pos}
  (h:∀ d,σ d=none→TP c A keys values env pos (upd σ d (some (.dictS []))) (fun ps σ1=>σ1 d=some (.dictS [])∧Q (.ref d) (upd σ1 d (some (.dictS (ps.foldl (fun acc kv=>sset acc kv.1 kv.2) []))))))
  (hall:autoParam ((keys.all fun x=>x.isSome)=true) aR) (hl:autoParam (keys.length=values.length) aR) (h0:keys≠[]:=by simp) (hn:autoParam (keys.length≤15) aD):TV c A (eval (.Dict keys values pos) env) σ Q:=.mk fun F s E H=>by
 have hf:=get_fresh s.heap (Nat.le_refl _)
 have hσ:=H.deadσ hf
 have S:=H.new (o:=.dictS []) (h':=s.heap.push { cls:=.type "dict",data:=.dict #[] }) (tk:=s.toks) hf (fun b o e=>Heap.get?_push_of_some _ e) ⟨H.newMod,[],Heap.DictOf.new _,.nil⟩
 refine wpAny_Dict_walk (knd:=strKind c.prog c.w) hall hl h0 hn ((h _ hσ).wp S.1 fun vs s1 F1 σ1 ps r1 H1 X1 q1=>?_)
 obtain ⟨q0,q1⟩:=q1
 obtain ⟨kvs,hc,hp⟩:=carries_of (c:=c) r1
 obtain ⟨_,nm,kvs0,D0,p0⟩:=H1.tr _ _ q0
 cases p0
 refine ⟨kvs,hc,D0,fun h' hD hs=>?_⟩
 have S2:=H1.set (h':=h') (tk:=s1.toks+vs.length) q0 (fun b o hb e=>(hs.2 b hb).trans e) (show Holds c F1 s.heap.objs.size (.dictS _) h' from ⟨nm,_,hD,paired_merged hp⟩)
 exact ⟨F1,_,.ref s.heap.objs.size,rfl,S2.1,(S.2.trans X1).trans S2.2,q1⟩
end
end Mine
end
section
namespace Mine
section
variable {c:Cfg} {A:Around} {F:FM} {σ:Sig} {s:Shared} {L:Addr} {cs:List (Str×Addr)} {m:Str→Option SV} {α β:Type} {Rv:FM→β→α→Prop} {t:Sem α} {P:β→Sig→Prop}
noncomputable def FrzP {K:Type} (a:Addr) (ds:List PyData) (p q:K×SV):Prop:=p.1=q.1∧(p.2=q.2∨(p.2=.ref a∧q.2=.d (.list ds)))
theorem frz_paired {K:Type} {a:Addr} {ds:List PyData} (r:RD F (.list ds) (.ref a)) {kvs kvs':List (K×SV)} {vs:List (K×Value)} (h:Paired (FrzP a ds) kvs kvs') (p:Paired (KV F) kvs vs):Paired (KV F) kvs' vs:=by
 induction h generalizing vs with
 | nil=>cases p;exact .nil
 | cons x y ih =>
  cases p with
  | cons u w =>
   refine .cons ⟨x.1▸u.1,?_⟩ (ih w)
   rcases x.2 with e | ⟨e1,e2⟩
   ·exact e▸u.2
   ·rw [e2]
    have z:=u.2
    rw [e1] at z
    have z:_=Value.ref a:=z
    rw [z];exact r
theorem TG.freezeS {a d:Addr} {ds:List PyData} {kvs kvs':List (Str×SV)} (ha:σ a=some (.list (ds.map SV.d))) (hd:σ d=some (.dictS kvs)) (hp:Paired (FrzP a ds) kvs kvs')
  (T:TG c Rv A t (upd (upd σ a none) d (some (.dictS kvs'))) P):TG c Rv A t σ P:=TG.freeze ha fun F s E H r=>by
 have hne:d≠a:=fun q=>by rw [q,ha] at hd;cases hd
 have hd':upd σ a none d=some (.dictS kvs):=by rw [upd_ne _ _ hne,hd]
 obtain ⟨_,nm,kvs0,D,p⟩:=H.tr d _ hd'
 have S:=H.set (o:=.dictS kvs') (h':=s.heap) (tk:=s.toks) hd' (fun _ _ _ e=>e) ⟨nm,kvs0,D,frz_paired r hp p⟩
 exact wpAny_mono (T.run F s E S.1) (fun _ _ q=>q.lift S.2) fun _ _ e=>e
theorem TG.freezeI {a d:Addr} {ds:List PyData} {kvs kvs':List (Int×SV)} (ha:σ a=some (.list (ds.map SV.d))) (hd:σ d=some (.dictI kvs)) (hp:Paired (FrzP a ds) kvs kvs')
  (T:TG c Rv A t (upd (upd σ a none) d (some (.dictI kvs'))) P):TG c Rv A t σ P:=TG.freeze ha fun F s E H r=>by
 have hne:d≠a:=fun q=>by rw [q,ha] at hd;cases hd
 have hd':upd σ a none d=some (.dictI kvs):=by rw [upd_ne _ _ hne,hd]
 obtain ⟨_,nm,kvs0,D,p⟩:=H.tr d _ hd'
 have S:=H.set (o:=.dictI kvs') (h':=s.heap) (tk:=s.toks) hd' (fun _ _ _ e=>e) ⟨nm,kvs0,D,frz_paired r hp p⟩
 exact wpAny_mono (T.run F s E S.1) (fun _ _ q=>q.lift S.2) fun _ _ e=>e
theorem t_freezeS {a d:Addr} {ds:List PyData} {kvs kvs':List (Str×SV)} (ok:FrOk σ L cs) (ha:σ a=some (.list (ds.map SV.d))) (hd:σ d=some (.dictS kvs)) (hp:Paired (FrzP a ds) kvs kvs')
  (T:FrOk (upd (upd σ a none) d (some (.dictS kvs'))) L cs→TG c Rv A t (fr (upd (upd σ a none) d (some (.dictS kvs'))) L cs m) P):TG c Rv A t (fr σ L cs m) P:=by
 have hne:d≠a:=fun q=>by rw [q,ha] at hd;cases hd
 have ok1:=ok.set none ha
 have hd':upd σ a none d=some (.dictS kvs):=by rw [upd_ne _ _ hne,hd]
 refine TG.freezeS (fr_some ok ha) (fr_some ok hd) hp ?_
 rw [upd_fr_some ok _ ha,upd_fr_some ok1 _ hd']
 exact T (ok1.set _ hd')
theorem t_freezeI {a d:Addr} {ds:List PyData} {kvs kvs':List (Int×SV)} (ok:FrOk σ L cs) (ha:σ a=some (.list (ds.map SV.d))) (hd:σ d=some (.dictI kvs)) (hp:Paired (FrzP a ds) kvs kvs')
  (T:FrOk (upd (upd σ a none) d (some (.dictI kvs'))) L cs→TG c Rv A t (fr (upd (upd σ a none) d (some (.dictI kvs'))) L cs m) P):TG c Rv A t (fr σ L cs m) P:=by
 have hne:d≠a:=fun q=>by rw [q,ha] at hd;cases hd
 have ok1:=ok.set none ha
 have hd':upd σ a none d=some (.dictI kvs):=by rw [upd_ne _ _ hne,hd]
 refine TG.freezeI (fr_some ok ha) (fr_some ok hd) hp ?_
 rw [upd_fr_some ok _ ha,upd_fr_some ok1 _ hd']
 exact T (ok1.set _ hd')
end
end Mine
end
section
namespace Mine
section
variable {c:Cfg} {A:Around} {F:FM} {σ:Sig} {s:Shared} {Q:SV→Sig→Prop}
theorem O_max {n:Nat} {x:SV} {ns:List Int} (R:Rm n A) (hx:AsList σ x (intsL ns)) (hne:0 < ns.length) (h:∀ M,M∈ns→(∀ a∈ns,a≤M)→Q (.d (.int M)) σ):CallT c A (.builtin "max") [x] σ Q:=.mk fun F s E vs H r=>by
 cases r with
 | cons r1 r =>
 cases r
 obtain ⟨l,ws,n,rfl,g,p⟩:=hx.get H r1
 have hi:=ints_are p
 obtain ⟨xs,e⟩:=hi.allInts.items
 have hns:ns=xs.toList.map (·.1):=by
  rw [←hi.numsOf,←nums_intItems,←e]
 have hsz:0 < xs.size:=by
  have h3:=hne;rw [hns,List.length_map,Array.length_toList] at h3;exact h3
 have hl:=isL g
 rw [e] at hl
 refine max_intList R.hh hl hsz fun v h' tk hv hk=>?_
 obtain ⟨t,rfl⟩:=intItems_at hv
 obtain ⟨h1,h2⟩:=argBest_gt (numAt xs) (xs.size - 1)
 have S:=H.same (h':=h') (tk:=tk) hk
 refine ⟨F,σ,.d (.int _),rel_int _ t,S.1,S.2,h _ ?_ fun a ha=>?_⟩
 ·rw [hns,numAt_eq];exact getD_mem (by rw [List.length_map,Array.length_toList];exact om153 hsz h1)
 ·rw [hns] at ha
  obtain ⟨j,hj,rfl⟩:=mem_getD ha
  rw [List.length_map,Array.length_toList] at hj
  rw [←numAt_eq];exact h2 j (om152 hsz hj)
theorem O_sorted {x:SV} {ns:List Int} (hx:AsList σ x (intsL ns)) (h64:ns.length < 64) (h:∀ ns':List Int,ns'.Perm ns→ns'.Pairwise (·≤·)→Q (.d (.list (ns'.map PyData.int))) σ):CallT c A (.builtin "sorted") [x] σ Q:=.mk fun F s E vs H r=>by
 cases r with
 | cons r1 r =>
 cases r
 obtain ⟨l,ws,n,rfl,g,p⟩:=hx.get H r1
 have hlen:=p.length
 rw [List.length_map] at hlen
 refine sorted_ints (isL g) (ints_are p) (om203 h64 hlen) fun out ns' a1 a2 a3=>?_
 obtain ⟨ep,ge⟩:=sortedAll_at s.heap ws out
 obtain ⟨l4,S4,X4⟩:=H.newF (h':=sortedAll s.heap ws out) (tk:=s.toks) (get_fresh _ (Nat.le_succ _)) (fun b o e=>sortedAll_old e) ge
 refine ⟨_,σ,.d (.list (ns'.map PyData.int)),?_,S4,X4,h ns' a2 a3⟩
 simp only [VRel,RD]
 refine ⟨_,out.toList,ep,rfl,updF_self ..,(rds_of_paired ?_).mono l4⟩
 have:=ints_of (F:=F) a1
 simpa [Function.comp_def] using this
theorem C_setL {n:Nat} {x:SV} {ns:List Int} (R:Rm n A) (hx:AsList σ x (intsL ns)) (h64:ns.length≤60) (h:∀ a k,σ a=none→k=(firstMet (fun i=>ns.getD i 0) ns.length).length→Q (.ref a) (upd σ a (some (.setI (fun k'=>(firstMet (fun i=>ns.getD i 0) ns.length).any (· == k')) k)))):CallT c A (.type "set") [x] σ Q:=.mk fun F s E vs H r=>by
 cases r with
 | cons r1 r =>
 cases r
 obtain ⟨l,ws,n',rfl,g,p⟩:=hx.get H r1
 have hlen:=p.length
 rw [List.length_map] at hlen
 refine call_set_list R.hh (isL g) (ints_are p) (by rw [List.size_toArray];unfold scanBound;exact om224 h64 hlen) fun h' tk hS hk=>?_
 rw [show ws.toArray.size=ns.length by rw [List.size_toArray,hlen]] at hS
 have hf:=get_fresh s.heap (Nat.le_refl _)
 have S:=H.new (o:=.setI _ _) (h':=h') (tk:=tk) hf (fun b o e=>hk b o (Heap.lt_size e) e) (show Holds c F s.heap.objs.size (.setI _ _) h' from hS)
 exact ⟨F,_,.ref s.heap.objs.size,rfl,S.1,S.2,h _ _ (H.deadσ hf) rfl⟩
theorem T_tup {elts:List Expr} {k:Nat} {pos:Pos} {env:Env} (h:TVs c A (spliced (backTo pos (starEach elts env))) σ (fun xs σ1=>xs.length≤1000∧∀ a,σ1 a=none→Q (.ref a) (upd σ1 a (some (.tup xs))))):TV c A (eval (.Tuple elts k pos) env) σ Q:=.mk fun F s E H =>
 wpAny_Tuple_spliced (h.wp H fun vs s1 F1 σ1 xs r1 H1 X1 q1=>by
  have hf:=get_fresh s1.heap (Nat.le_refl _)
  have S:=H1.new (o:=.tup xs) (h':=s1.heap.push (tupObj vs 0)) (tk:=s1.toks) hf (fun b o e=>Heap.get?_push_of_some _ e) ⟨vs,0,Heap.get?_push_size _ rfl,r1⟩
  exact ⟨by rw [←r1.length,sizeLine_eq];have:=q1.1;omega,F1,_,.ref s1.heap.objs.size,rfl,S.1,X1.trans S.2,q1.2 _ (H1.deadσ hf)⟩)
theorem T_assTupR {n:Nat} {elts:List Expr} {k:Nat} {pos:Pos} {a:Addr} {xs:List SV} {env:Env} {Q:Sig→Prop} (R:Rm n A) (ha:σ a=some (.tup xs)) (h:TAssign c A env elts xs σ Q)
  (hl:(assignEach elts env).length=xs.length) (hm:(assignEach elts env).map (·.2)=elts.map fun t=>assign t env) (hf:(assignEach elts env).findIdx? (·.1)=none):T1 c RU A (assign (.Tuple elts k pos) env) (.ref a) σ (fun _ σ'=>Q σ'):=.mk fun F s E u H r=>by
 have:u=.ref a:=r
 subst this
 obtain ⟨_,vs,n,g,p⟩:=H.tr a _ ha
 refine wpAny_assign_Tuple R.hh (isTu g) (by rw [hl,List.size_toArray,p.length]) hf fun h' he=>?_
 have S:=H.same (h':=h') (tk:=s.toks) (fun b o e=>he b o (Nat.ne_of_lt (Heap.lt_size e)) e)
 rw [hm]
 exact assign_order h p S.1 S.2
end
end Mine
end
section
namespace Mine
section
variable {c:Cfg} {A:Around} {F:FM} {σ:Sig} {s:Shared} {env:Env} {L:Addr} {cs:List (Str×Addr)} {m:Str→Option SV}
theorem St.set2 (H:St c F σ s) {h':Heap} {tk:Nat} {a l:Addr} {oa oa' ol ol':SObj} (ha:σ a=some oa) (hl:σ l=some ol) (hne:a≠l) (hk:∀ b o,b≠a→b≠l→s.heap.get? b=some o→h'.get? b=some o)
  (ho:Holds c F a oa' h') (hol:Holds c F l ol' h') (hra:autoParam (oa.isRo=false) aR) (hrl:autoParam (ol.isRo=false) aR) :
  St c F (upd (upd σ l (some ol')) a (some oa')) { s with heap:=h',toks:=tk }∧Ext F σ s F (upd (upd σ l (some ol')) a (some oa')) { s with heap:=h',toks:=tk }:=by
 have hFa:=(H.tr a oa ha).1
 have hFl:=(H.tr l ol hl).1
 refine ⟨⟨H.base,fun b x e=>hk _ _ (fun q=>by rw [q,hFa] at e;cases e) (fun q=>by rw [q,hFl] at e;cases e) (H.fz b x e),fun b x e=>?_⟩,⟨.refl F,fun b x n e=>hk _ _ (fun q=>by rw [q,ha] at n;exact not_quiet hra n) (fun q=>by rw [q,hl] at n;exact not_quiet hrl n) e,fun b x e=>?_,fun b x g e=>?_,rfl⟩⟩
 ·by_cases q:b=a
  ·subst q;rw [upd_self] at e;cases e;exact ⟨hFa,ho⟩
  ·by_cases r:b=l
   ·subst r;rw [upd_ne _ _ q,upd_self] at e;cases e;exact ⟨hFl,hol⟩
   ·rw [upd_ne _ _ q,upd_ne _ _ r] at e;exact ⟨(H.tr b x e).1,(H.tr b x e).2.at fun _=>hk b _ q r⟩
 ·by_cases q:b=a
  ·subst q;exact ho.alive
  ·by_cases r:b=l
   ·subst r;exact hol.alive
   ·exact ⟨x,hk _ _ q r e⟩
 ·have q:b≠a:=fun q=>by rw [q,ha] at e;exact not_quiet hra e
  have r:b≠l:=fun q=>by rw [q,hl] at e;exact not_quiet hrl e
  exact ⟨by rw [upd_ne _ _ q,upd_ne _ _ r],rfl⟩
noncomputable abbrev instO (C dx:Addr):Obj:={ cls:=.ref C,dict:=some dx,data:=.plain }
noncomputable def emptyH:Heap:={ objs:=#[] }
theorem emptyH_get (a:Addr):emptyH.get? a=none:=by
 cases e:emptyH.get? a with
 | none=>rfl
 | some o=>exact absurd (Heap.lt_size e) (by show ¬a < 0;exact Nat.not_lt_zero a)
noncomputable def restOf (h:Heap) (L a:Addr):List (Addr×Obj):=(List.range h.objs.size).filterMap fun b=>if b=L∨b=a then none else (h.get? b).map fun o=>(b,o)
theorem restOf_mem {h:Heap} {L a b:Addr} {o:Obj} (h1:b≠L) (h2:b≠a) (g:h.get? b=some o):(b,o)∈restOf h L a:=by
 refine List.mem_filterMap.mpr ⟨b,List.mem_range.mpr (Heap.lt_size g),?_⟩
 rw [if_neg (fun q=>q.elim h1 h2),g];rfl
theorem restOf_get {h:Heap} {L a:Addr} {p:Addr×Obj} (hp:p∈restOf h L a):h.get? p.1=some p.2∧p.1≠L∧p.1≠a:=by
 obtain ⟨b,_,e⟩:=List.mem_filterMap.mp hp
 split at e
 ·cases e
 ·rename_i hn
  obtain ⟨o,g,rfl⟩:=Option.map_eq_some_iff.mp e
  exact ⟨g,fun q=>hn (.inl q),fun q=>hn (.inr q)⟩
theorem news_all {L a:Addr} {o:Obj} (g:s.heap.get? a=some o) (hne:a≠L):News emptyH L s.heap ((a,o) :: restOf s.heap L a):=fun p hp=>by
 rcases List.mem_cons.mp hp with rfl | hp
 ·exact ⟨g,hne,emptyH_get _⟩
 ·obtain ⟨x,y,_⟩:=restOf_get hp
  exact ⟨x,y,emptyH_get _⟩
theorem fr_all {L:Addr} {m':Str→Option Value} (h:s.heap.Ns L m'):Fr emptyH L s.heap m':=⟨h,(fun b o e=>by rw [emptyH_get] at e;cases e),Nat.zero_le _⟩
theorem news_keep {L a:Addr} {o':Obj} {h':Heap} (N:News emptyH L h' ((a,o') :: restOf s.heap L a)):h'.get? a=some o'∧∀ b x,b≠a→b≠L→s.heap.get? b=some x→h'.get? b=some x :=
 ⟨(N _ (.head _)).1,fun b x h1 h2 g=>(N (b,x) (.tail _ (restOf_mem h2 h1 g))).1⟩
noncomputable def aputL (name:Str) (y:SV):List (Str×SV)→List (Str×SV)
 | []=>[(name,y)]
 | p :: r=>if p.1=name then (name,y) :: r else p :: aputL name y r
theorem aputL_len (name:Str) (y:SV):∀ l,(aputL name y l).length≤l.length+1
 | []=>Nat.le_refl _
 | p :: r=>by
  unfold aputL
  have:=aputL_len name y r
  split <;> simp <;> exact om197 this
theorem av_key {F:FM} {p:Str×SV} {e:DictEntry} (h:AV c F p e) (name:Str):e.key.isStr name=decide (p.1=name):=by
 obtain ⟨t,hk,_,_⟩:=h
 rw [hk]
 show (p.1 == name)=_
 by_cases q:p.1=name <;> simp [q]
theorem av_find {F:FM} {name:Str} {y:SV} {l:List (Str×SV)} {es:List DictEntry} (p:Paired (AV c F) l es) (h:l.lookup name=some y):∃ e,es.find? (·.key.isStr name)=some e∧VRel F y e.val:=by
 induction p with
 | nil=>cases h
 | @cons x e _ _ a b ih =>
  rw [List.lookup_cons] at h
  rw [List.find?_cons,av_key a name]
  by_cases q:x.1=name
  ·rw [show (name == x.1)=true by simpa using q.symm] at h
   cases h
   rw [decide_eq_true q]
   obtain ⟨t,_,_,r⟩:=a
   exact ⟨e,rfl,r⟩
  ·rw [show (name == x.1)=false by simpa using Ne.symm q] at h
   rw [decide_eq_false q]
   exact ih h
theorem av_noref {F:FM} {l:List (Str×SV)} {es:List DictEntry} (p:Paired (AV c F) l es):es.any (·.refKey)=false:=by
 induction p with
 | nil=>rfl
 | cons a _ ih =>
  obtain ⟨t,hk,_,_⟩:=a
  rw [List.any_cons,ih,Bool.or_false]
  unfold DictEntry.refKey
  rw [hk]
theorem av_get {F:FM} {name:Str} {l:List (Str×SV)} {es:List DictEntry} (h:Paired (AV c F) l es):(getL name es).isSome=true:=by
 unfold getL
 split
 ·rfl
 ·rw [av_noref h];rfl
theorem av_put {F:FM} {name:Str} {y:SV} {v:Value} {t:Tok} (r:VRel F y v) {l:List (Str×SV)} {es:List DictEntry} (p:Paired (AV c F) l es):Paired (AV c F) (aputL name y l) (putL name (PyData.keyHash c.w.params name) (.str name t) v es):=by
 induction p with
 | nil=>exact .cons ⟨t,rfl,rfl,r⟩ .nil
 | @cons p e _ _ a b ih =>
  unfold aputL putL
  rw [av_key a name]
  by_cases z:p.1=name
  ·rw [if_pos z,if_pos (by simpa using z)]
   obtain ⟨t',hk,hh,_⟩:=a
   exact .cons ⟨t',z▸hk,z▸hh,r⟩ b
  ·rw [if_neg z,if_neg (by simpa using z)]
   exact .cons a ih
noncomputable def Handed (c:Cfg) (σ:Sig) (y:SV):Prop:=∀ F s v,St c F σ s→VRel F y v→handedIn v=true
theorem A_get {C x dx:Addr} {l:List (Str×SV)} {name:Str} {y:SV} {attr:Option Value} {expr:Bool} {Q:SV→Sig→Prop} (hx:Rd σ x (.obj (instO C dx))) (hdx:Rd σ dx (.attrs l)) (hl:l.lookup name=some y) (hy:Handed c σ y) (h:Q y σ)
  (hg:plainGet c.K C name=true) (hh:hasDictIn c.K C=true) (ha:findIn c.K (.ref C) name=some attr) (hn:noGet c.K attr=true):T1 c VRel A (fun v=>getAttr v name expr) (.ref x) σ Q:=.mk fun F s E v H r=>by
 have:v=.ref x:=r
 subst this
 have gx:s.heap.get? x=some (instO C dx):=(hx.holds H).2
 obtain ⟨_,es,n,gd,p⟩:=hdx.holds H
 obtain ⟨e,he,re⟩:=av_find p hl
 have S:=H.tok (s.toks+1)
 refine get_value H.kin (od:=some ⟨.type "dict",none,.dict es n,#[]⟩) ⟨gx,rfl,rfl,gd⟩ (plainGet_of hg).1 (findObj_own hh ha hn (v:=e.val) ?_) (hy F s _ H re) ⟨F,σ,y,re,S.1,S.2,h⟩
 unfold lookIn
 dsimp only
 rw [he]
theorem A_set {C x dx:Addr} {l:List (Str×SV)} {name:Str} {y:SV} {Q:Sig→Prop} (ok:FrOk σ L cs) (hx:σ x=some (.obj (instO C dx))) (hdx:σ dx=some (.attrs l)) (hz:l.length≤900)
  (h:FrOk (upd σ dx (some (.attrs (aputL name y l)))) L cs→Q (fr (upd σ dx (some (.attrs (aputL name y l)))) L cs m))
  (hs:findIn c.K (.ref C) "__setattr__"=some (some (.builtin "object.__setattr__"))) (hp:plainOver c.K C=true) (ht:takerIn c.K C name=some none) (hh:hasDictIn c.K C=true) :
  T2 c RU A (fun a b=>setAttr a name b) (.ref x) y (fr σ L cs m) (fun _ σ'=>Q σ'):=.mk fun F s E v u H r1 r2=>by
 have:v=.ref x:=r1
 subst this
 have hxL:x≠L:=fun q=>by rw [q,ok.free] at hx;cases hx
 have hdL:dx≠L:=fun q=>by rw [q,ok.free] at hdx;cases hdx
 have gx:s.heap.get? x=some (instO C dx):=(H.tr _ _ (fr_some ok hx)).2
 obtain ⟨_,es,n,gd,p⟩:=H.tr _ _ (fr_some ok hdx)
 obtain ⟨es⟩:=es
 obtain ⟨_,m',hns,hm⟩:=H.tr _ _ (fr_self σ L cs m)
 have I:InstAt s.heap x (instO C dx) C (some (dictOf es n)):=⟨gx,rfl,rfl,gd⟩
 have hlen:(putL name (PyData.keyHash c.w.params name) (.str name (s.toks+1)) u es).length≤1000:=by
  have h1:=(av_put (c:=c) (name:=name) (t:=s.toks+1) r2 p).length
  have h2:=aputL_len name y l
  have h3:(putL name (PyData.keyHash c.w.params name) (.str name (s.toks+1)) u es).length=(aputL name y l).length:=h1.symm
  exact om300 hz h1 h2 h3
 refine set_plain H.kin I hs (osa_dict (s:={ s with toks:=s.toks+1 }) (pre:=[]) (od':=dictOf _ _) (fr_all (s:={ s with toks:=s.toks+1 }) hns) (news_all (s:={ s with toks:=s.toks+1 }) (a:=dx) gd hdL) H.kin I rfl hp ht hh (av_get p) (fun _ h=>by cases h) (fun q hq=>(restOf_get hq).2.2) (putName_dict ..) rfl hlen fun h' F' N'=>?_)
 obtain ⟨k1,k2⟩:=news_keep N'
 have S:=H.set2 (h':=h') (tk:=s.toks+1+1) (oa':=.attrs (aputL name y l)) (ol':=.ns (hideC cs m)) (fr_some ok hdx) (fr_self σ L cs m) hdL k2 ⟨_,_,k1,by simpa using av_put r2 p⟩ ⟨m',F'.ns,hm⟩
 rw [upd_id (fr_self σ L cs m),upd_fr_some ok _ hdx] at S
 exact ⟨F,_,(),trivial,S.1,S.2,h (ok.set _ hdx)⟩
noncomputable def slotSet (vs:List (Option SV)) (i:Nat) (y:SV):List (Option SV):=(vs++List.replicate (i+1 - vs.length) none).set i (some y)
theorem paired_rep {F:FM}:∀ n,Paired (OV F) (List.replicate n none) (List.replicate n none)
 | 0=>.nil
 | n+1=>.cons trivial (paired_rep n)
theorem A_getS {C x dx p:Addr} {i:Nat} {l:List (Str×SV)} {vs:List (Option SV)} {name:Str} {y:SV} {expr:Bool} {Q:SV→Sig→Prop} (hx:Rd σ x (.slots C dx vs)) (hdx:Rd σ dx (.attrs l)) (hv:vs[i]?=some (some y)) (hy:Handed c σ y) (h:Q y σ)
  (hg:plainGet c.K C name=true) (hc:isClsIn c.K C=true) (ha:findIn c.K (.ref C) name=some (some (.ref p))) (hn:specialIn c.K (.ref p) "__get__"=some (some (.builtin "member_descriptor.__get__"))) (ht:takesIn c.K (.ref p)=some true) (hp:slotIn c.K p C=some i) :
  T1 c VRel A (fun v=>getAttr v name expr) (.ref x) σ Q:=.mk fun F s E v H r=>by
 have:v=.ref x:=r
 subst this
 obtain ⟨_,vs',gx,pp⟩:=hx.holds H
 obtain ⟨_,es,n,gd,_⟩:=hdx.holds H
 obtain ⟨o,ho,ro⟩:=paired_get pp hv
 obtain ⟨w,rfl,rw⟩:=ov_some ro
 have S:=H.tok (s.toks+1)
 have I:InstAt s.heap x ⟨.ref C,some dx,.plain,vs'⟩ C (some ⟨.type "dict",none,.dict es n,#[]⟩):=⟨gx,rfl,rfl,gd⟩
 have hvj:(vs'[i]?).join=some w:=by
  rw [←Array.getElem?_toList,ho];rfl
 exact get_bind H.kin I (plainGet_of hg).1 (findObj_data hc ha hn ht) (plainGet_of hg).2 (wpAny_call (slot_get (s:={ s with toks:=s.toks+1 }) H.kin I hp hvj (handed_on (hy F s _ H rw) ⟨F,σ,y,rw,S.1,S.2,h⟩)))
theorem A_setS {C x dx p:Addr} {i:Nat} {l:List (Str×SV)} {vs:List (Option SV)} {name:Str} {y:SV} {Q:Sig→Prop} (ok:FrOk σ L cs) (hx:σ x=some (.slots C dx vs)) (hdx:σ dx=some (.attrs l)) (hz:i < 1000)
  (h:FrOk (upd σ x (some (.slots C dx (slotSet vs i y)))) L cs→Q (fr (upd σ x (some (.slots C dx (slotSet vs i y)))) L cs m))
  (hs:findIn c.K (.ref C) "__setattr__"=some (some (.builtin "object.__setattr__"))) (hp:plainOver c.K C=true) (ht:takerIn c.K C name=some (some (.ref p))) (hT:typeIn c.K (.ref p)=some (.type "member_descriptor")) (hsl:slotIn c.K p C=some i) :
  T2 c RU A (fun a b=>setAttr a name b) (.ref x) y (fr σ L cs m) (fun _ σ'=>Q σ'):=.mk fun F s E v u H r1 r2=>by
 have:v=.ref x:=r1
 subst this
 have hxL:x≠L:=fun q=>by rw [q,ok.free] at hx;cases hx
 have hdL:dx≠L:=fun q=>by rw [q,ok.free] at hdx;cases hdx
 obtain ⟨_,vs',gx,pp⟩:=H.tr _ _ (fr_some ok hx)
 obtain ⟨_,es,n,gd,_⟩:=H.tr _ _ (fr_some ok hdx)
 obtain ⟨_,m',hns,hm⟩:=H.tr _ _ (fr_self σ L cs m)
 have I:InstAt s.heap x ⟨.ref C,some dx,.plain,vs'⟩ C (some ⟨.type "dict",none,.dict es n,#[]⟩):=⟨gx,rfl,rfl,gd⟩
 refine set_plain H.kin I hs (osa_descr (s:={ s with toks:=s.toks+1 }) KF.slot_mset H.kin I hp ht hT (slot_set (s:={ s with toks:=s.toks+1 }) (pre:=[]) (ox':=⟨.ref C,some dx,.plain,(vs'++Array.replicate (i+1 - vs'.size) none).setIfInBounds i (some u)⟩) (fr_all (s:={ s with toks:=s.toks+1 }) hns) (news_all (s:={ s with toks:=s.toks+1 }) (a:=x) gx hxL) H.kin I hsl hz (fun _ h=>by cases h) (fun q hq=>(restOf_get hq).2.2) rfl rfl fun h' F' N'=>?_))
 obtain ⟨k1,k2⟩:=news_keep N'
 have S:=H.set2 (h':=h') (tk:=s.toks+1) (oa':=.slots C dx (slotSet vs i y)) (ol':=.ns (hideC cs m)) (fr_some ok hx) (fr_self σ L cs m) hxL k2 ⟨_,k1,by
  rw [Array.toList_setIfInBounds,Array.toList_append,Array.toList_replicate]
  refine paired_set (show OV F (some y) (some u) from r2) _ (paired_append pp ?_)
  have e:vs'.size=vs.length:=(pp.length.trans Array.length_toList).symm
  rw [e]
  exact paired_rep _⟩ ⟨m',F'.ns,hm⟩
 rw [upd_id (fr_self σ L cs m),upd_fr_some ok _ hx] at S
 exact ⟨F,_,(),trivial,S.1,S.2,h (ok.set _ hx)⟩
end
end Mine
end
section
namespace Mine
section
variable {c:Cfg} {A:Around} {F:FM} {σ:Sig} {s:Shared} {env:Env} {L:Addr} {cs:List (Str×Addr)} {m:Str→Option SV}
theorem Rm.make {n:Nat} (R:Rm (n+1) A) (C:Addr) (vs:List Value):Rm n (A.under (.builtin "type.__call__" ⟨.ref C :: vs,[]⟩)):=by
 obtain ⟨h1,h2,h3⟩:=R
 refine ⟨h1,?_,?_⟩
 ·show A.depth+1+n≤900
  exact om164 h2
 ·have:(Code.builtin "type.__call__" ⟨.ref C :: vs,[]⟩).cUnits≤8:=by with_unfolding_all exact (by decide:1≤8)
  show A.units+(Code.builtin "type.__call__" ⟨.ref C :: vs,[]⟩).cUnits+8 * n≤9000
  exact om231 h3 this
theorem C_make {n:Nat} {C fI:Addr} {xs:List SV} {Q:SV→Sig→Prop} (R:Rm (n+1) A) (hm:makesIn c.K C=true) (hi:findIn c.K (.ref C) "__init__"=some (some (.ref fI))) (hf:typeIn c.K (.ref fI)=some (.type "function")) (ob:Addr→SObj)
  (hob:∀ dx,ob dx=.obj (instO C dx)∨ob dx=.slots C dx [])
  (h:∀ A' x dx,Rm n A'→σ x=none→σ dx=none→x≠dx→CodeT c A' (.ref fI) (.ref x :: xs) (upd (upd σ dx (some (.attrs []))) x (some (ob dx))) (fun v σ'=>v=.d .none∧Q (.ref x) σ')):CallT c A (.ref C) xs σ Q:=.mk fun F s E vs H r=>by
 refine wpAny_call ?_
 obtain ⟨hh,g,d,t,os⟩:=s
 have X:=H.kin
 refine make_core (makes_of X hm) (looks_findIn X hi) (fun self=>bind_fn X self hf) (.inl rfl) ?_
 have f1:=get_fresh hh (Nat.le_refl _)
 have S1:=H.new (o:=.attrs []) (h':=hh.push emptyDict) (tk:=t) (a:=hh.objs.size) f1 (fun b o e=>Heap.get?_push_of_some _ e) ⟨#[],0,Heap.get?_push_size _ rfl,.nil⟩
 have f2:(hh.push emptyDict).get? (hh.objs.size+1)=none:=get_fresh _ (by rw [Heap.size_push];exact Nat.le_refl _)
 have gx:((hh.push emptyDict).push (instObj C hh.objs.size)).get? (hh.objs.size+1)=some (instObj C hh.objs.size):=by
  have:=Heap.get?_push_size (hh.push emptyDict) (o:=instObj C hh.objs.size) rfl
  rwa [Heap.size_push] at this
 have S2:=S1.1.new (o:=ob hh.objs.size) (h':=(hh.push emptyDict).push (instObj C hh.objs.size)) (tk:=t) (a:=hh.objs.size+1) f2 (fun b o e=>Heap.get?_push_of_some _ e) (by
  rcases hob hh.objs.size with e | e
  ·rw [e];exact gx
  ·rw [e];exact ⟨#[],gx,.nil⟩)
 have n1:=H.deadσ (a:=hh.objs.size) f1
 have n2:=H.deadσ (a:=hh.objs.size+1) (get_fresh _ (Nat.le_succ _))
 refine codeAny_mono ((h _ (hh.objs.size+1) hh.objs.size (R.make C vs) n2 n1 (ane (Nat.succ_ne_self _))).run F _ E (.ref (hh.objs.size+1) :: vs) S2.1 (.cons rfl r)) fun r s' z=>?_
 cases r with
 | error e=>exact z
 | ok f =>
  cases f with
  | ret v =>
   obtain ⟨F',σ',y,ry,H',X',rfl,q⟩:=z
   exact ⟨rd_none ry,F',σ',.ref (hh.objs.size+1),rfl,H',(S1.2.trans S2.2).trans X',q⟩
  | _=>exact z
end
end Mine
end
section
namespace Mine
section
variable {c:Cfg} {A:Around} {F:FM} {σ:Sig} {s:Shared} {env:Env} {Q:SV→Sig→Prop}
theorem t_attr {o:Expr} {name:Str} {pos:Pos} (h:TV c A (eval o env) σ (fun x σ1=>T1 c VRel A (fun v=>getAttr v name true) x σ1 Q)) (hbase:autoParam (attributeBase o name env (eval o env)=eval o env) aR) (hn:∀ ov v,letTemporaryGo o ov v=pure ():=by exact fun _ _=>rfl) :
  TV c A (eval (.Attribute o name pos) env) σ Q:=.mk fun F s E H=>by
 rw [arm_eval_Attribute,hbase]
 refine wpAny_bind (h.wp H fun ov s1 F1 σ1 x r1 H1 X1 q1=>wpAny_bind (wpAny_standAt (wpAny_bind (wpAny_holding (wpAny_mono (q1.run F1 s1 E ov H1 r1) (fun v s2 p2=>?_) fun _ _ e=>e)))))
 rw [hn]
 exact wpAny_bind (wpAny_pure (wpAny_pure (p2.lift X1)))
theorem t_asAttr {o e:Expr} {name:Str} {p' pos:Pos} {Q:SFlow→Sig→Prop} (h:TV c A (eval e env) σ (fun y σ1=>TV c A (eval o env) σ1 (fun x σ2=>T2 c RU A (fun a b=>setAttr a name b) x y σ2 (fun _ σ3=>Q .next σ3))))
  (hs:autoParam (swapsWith e (some (.Attribute o name p')) pos.line env=pure false) aR):TF c A (exec (.Assign [.Attribute o name p'] e pos) env) σ Q:=.mk fun F s E H =>
 plainObj_wpAny_Assign_Attribute (h.wp H fun v s1 F1 σ1 y r1 H1 X1 q1=>q1.wp H1 fun ov s2 F2 σ2 x r2 H2 X2 q2=>wpAny_mono (q2.run F2 s2 E ov v H2 r2 (r1.mono X2.fle)) (fun _ s3 ⟨F3,σ3,_,_,H3,X3,q3⟩=>⟨F3,σ3,.next,rfl,H3,(X1.trans X2).trans X3,q3⟩) fun _ _ e=>e) hs
theorem t_augAttr {o e:Expr} {name:Str} {op:Operator} {p' pos:Pos} {Q:SFlow→Sig→Prop}
  (h:TV c A (eval o env) σ (fun x σ1=>T1 c VRel A (fun v=>getAttr v name true) x σ1 (fun old σ2=>TV c A (eval e env) σ2 (fun v σ3=>T2 c VRel A (inplaceOp op) old v σ3 (fun new σ4=>T2 c RU A (fun a b=>setAttr a name b) x new σ4 (fun _ σ5=>Q .next σ5)))))) :
  TF c A (exec (.AugAssign (.Attribute o name p') op e pos) env) σ Q:=.mk fun F s E H=>by
 refine wpAny_AugAssign_AttributeAny (h.wp H fun ov s1 F1 σ1 x r1 H1 X1 q1=>wpAny_mono (q1.run F1 s1 E ov H1 r1) (fun old s2 ⟨F2,σ2,z,r2,H2,X2,q2⟩=>q2.wp H2 fun v s3 F3 σ3 u r3 H3 X3 q3 =>
  wpAny_mono (q3.run F3 s3 E old v H3 (r2.mono X3.fle) r3) (fun new s4 ⟨F4,σ4,z4,r4,H4,X4,q4⟩=>wpAny_mono (q4.run F4 s4 E ov new H4 (((r1.mono X2.fle).mono X3.fle).mono X4.fle) r4) (fun _ s5 ⟨F5,σ5,_,_,H5,X5,q5⟩=>?_) fun _ _ e=>e) fun _ _ e=>e) fun _ _ e=>e)
 exact ⟨F5,σ5,.next,rfl,H5,(((X1.trans X2).trans X3).trans X4).trans X5,q5⟩
noncomputable def IsInst (c:Cfg) (σ:Sig) (x:Addr) (C:Addr) (name:Str):Prop:=∀ F s,St c F σ s→∃ ox od,InstAt s.heap x ox C od∧shadowIn od name=some false
theorem av_nofind {F:FM} {name:Str} {l:List (Str×SV)} {es:List DictEntry} (p:Paired (AV c F) l es) (h:l.lookup name=none):es.find? (·.key.isStr name)=none:=by
 induction p with
 | nil=>rfl
 | @cons x e _ _ a b ih =>
  rw [List.lookup_cons] at h
  rw [List.find?_cons,av_key a name]
  by_cases q:x.1=name
  ·rw [show (name == x.1)=true by simpa using q.symm] at h;cases h
  ·rw [show (name == x.1)=false by simpa using Ne.symm q] at h
   rw [decide_eq_false q]
   exact ih h
theorem isInst_obj {C x dx:Addr} {l:List (Str×SV)} {name:Str} (hx:Rd σ x (.obj (instO C dx))) (hdx:Rd σ dx (.attrs l)) (hl:l.lookup name=none):IsInst c σ x C name:=fun F s H=>by
 have gx:s.heap.get? x=some (instO C dx):=(hx.holds H).2
 obtain ⟨_,es,n,gd,p⟩:=hdx.holds H
 refine ⟨_,some ⟨.type "dict",none,.dict es n,#[]⟩,⟨gx,rfl,rfl,gd⟩,?_⟩
 unfold shadowIn lookIn
 dsimp only
 rw [av_nofind p hl,av_noref p];rfl
theorem t_inst {o:Expr} {name:Str} {apos pos:Pos} {args:List Expr} {C f:Addr}
  (h:TV c A (eval o env) σ (fun x σ1=>∃ a,x=.ref a∧IsInst c σ1 a C name∧TArgs c A (.ref f) args pos env σ1 (fun xs σ2=>CallT c A (.ref f) (.ref a :: xs) σ2 Q)))
  (hg:plainGet c.K C name=true) (hf:findIn c.K (.ref C) name=some (some (.ref f))) (ht:typeIn c.K (.ref f)=some (.type "function")) (hkf:keepIn c.K (.ref f)=true)
  (hbase:autoParam (attributeBase o name env (eval o env)=eval o env) aR)
  (hfew:autoParam (((backTo pos (starEach args env)).all (fun x=>!x.1) && (backToKw pos (keywordEach [] env)).all (fun x=>x.1.isSome) && decide (args.length+([]:List Keyword).length+(if ([]:List Keyword).isEmpty then 0 else 1) < 30))=true) aR)
  (hline:autoParam ((apos.endLine == pos.line)=true) aR):TV c A (eval (.Call (.Attribute o name apos) args [] pos) env) σ Q:=.mk fun F s E H=>by
 rw [arm_eval_Call,hbase]
 refine wpAny_bind (h.wp H fun ov s1 F1 σ1 x r1 H1 X1 q1=>?_)
 obtain ⟨a,rfl,hi,q⟩:=q1
 have:ov=.ref a:=r1
 subst this
 obtain ⟨ox,od,I,hsh⟩:=hi F1 s1 H1
 refine wpAny_bind (wpAny_standAt ?_)
 have hform:methodCallForm (args.length+([]:List Keyword).length) (backTo pos (starEach args env)) (backToKw pos (keywordEach [] env))=true:=hfew
 have hpos:methodCallPos true o env apos pos=pure pos:=by unfold methodCallPos;simp [hline]
 unfold methodCall
 rw [hform]
 refine wpAny_bind (wpAny_holding (method_fn H1.kin I (plainGet_of hg).1 (plainGet_of hg).2 hf ht hsh ?_))
 refine wpAny_bind (wpAny_of_eq hpos ?_)
 exact wpAny_mono (T_callWith (first:=[.ref a]) (vf:=[.ref a]) (kept_K hkf) H1 (.cons rfl .nil) q) (fun _ _ p=>p.lift X1) fun _ _ e=>e
end
end Mine
end
section
namespace Mine
section
variable {c:Cfg} {A:Around} {F:FM} {σ:Sig} {s:Shared} {env:Env} {Q:SV→Sig→Prop}
noncomputable def IsInst2 (c:Cfg) (σ:Sig) (x:Addr) (C:Addr) (name:Str):Prop:=∀ F s,St c F σ s→∃ ox od,InstAt s.heap x ox C (some od)∧lookIn name od=some none
theorem isInst2_obj {C x dx:Addr} {l:List (Str×SV)} {name:Str} (hx:Rd σ x (.obj (instO C dx))) (hdx:Rd σ dx (.attrs l)) (hl:l.lookup name=none):IsInst2 c σ x C name:=fun F s H=>by
 have gx:s.heap.get? x=some (instO C dx):=(hx.holds H).2
 obtain ⟨_,es,n,gd,p⟩:=hdx.holds H
 refine ⟨_,⟨.type "dict",none,.dict es n,#[]⟩,⟨gx,rfl,rfl,gd⟩,?_⟩
 unfold lookIn
 dsimp only
 rw [av_nofind p hl,av_noref p];rfl
theorem t_instS {o:Expr} {name:Str} {apos pos:Pos} {args:List Expr} {C f:Addr}
  (h:TV c A (eval o env) σ (fun x σ1=>∃ a,x=.ref a∧IsInst2 c σ1 a C name∧∀ q,TArgs c A (.ref q) args pos env σ1 (fun xs σ2=>CodeT c A (.ref f) (.ref a :: xs) σ2 Q)))
  (hg:plainGet c.K C name=true) (hh:hasDictIn c.K C=true) (ha:findIn c.K (.ref C) name=some (some (.ref f))) (hf:isFn c.K (.ref f)=true) (hfn:fnIn c.K f=true)
  (hgf:specialIn c.K (.ref f) "__get__"=some (some (.builtin "function.__get__"))) (ht:takesIn c.K (.ref f)=some false) (hcn:copiedNames.contains name=false)
  (hbase:autoParam (attributeBase o name env (eval o env)=eval o env) aR)
  (hform:autoParam (methodCallForm (args.length+([]:List Keyword).length) (backTo pos (starEach args env)) (backToKw pos (keywordEach [] env))=false) aR):TV c A (eval (.Call (.Attribute o name apos) args [] pos) env) σ Q:=.mk fun F s E H=>by
 rw [arm_eval_Call,hbase]
 refine wpAny_bind (h.wp H fun ov s1 F1 σ1 x r1 H1 X1 q1=>?_)
 obtain ⟨a,rfl,hi,q⟩:=q1
 have:ov=.ref a:=r1
 subst this
 obtain ⟨ox,od,I,hl⟩:=hi F1 s1 H1
 refine wpAny_bind (wpAny_standAt ?_)
 unfold methodCall
 rw [hform]
 refine wpAny_bind (wpAny_holding ?_)
 unfold calleeOf
 refine wpAny_bind (get_bind H1.kin I (plainGet_of hg).1 (findObj_fn hh ha hgf ht hcn hl) (plainGet_of hg).2 (wpAny_call (fn_get (s:={ s1 with toks:=s1.toks+1 }) H1.kin (beq_iff_eq.mp hf) (handed_on rfl ?_))))
 refine wpAny_pure ?_
 unfold methodCallPos
 refine wpAny_bind (wpAny_pure ?_)
 obtain ⟨l,S2,X2⟩:=H1.newF (h':=s1.heap.push (methodObj (.ref f) (.ref a))) (tk:=s1.toks+1) (get_fresh _ (Nat.le_refl _)) (fun b o e=>Heap.get?_push_of_some _ e) (Heap.get?_push_size _ rfl)
 have hq:updF F1 s1.heap.objs.size (methodObj (.ref f) (.ref a)) s1.heap.objs.size=some (methodObj (.ref f) (.ref a)):=updF_self ..
 refine callWith_any (P:=MethP c.K s1.heap.objs.size f (.ref a)) (first:=[]) (fun h X=>let ⟨k,_,L⟩:=keeps_M hfn h X;⟨k,L⟩) ((q s1.heap.objs.size).wp S2 fun as s3 F3 σ3 xs r3 H3 X3 q3=>?_)
 obtain ⟨e,r3⟩:=r3
 have g3:=H3.fz _ _ (X3.fle _ _ hq)
 refine ⟨⟨g3,H3.kin⟩,?_⟩
 rw [e]
 refine wpAny_call (method_call g3 (codeAny_mono (q3.run F3 s3 E _ H3 (.cons rfl r3)) fun r s' z=>?_))
 cases r with
 | error e=>exact z
 | ok f=>cases f with
  | ret v=>exact z.lift ((X1.trans X2).trans X3)
  | _=>exact z
end
end Mine
end
section
namespace Mine
theorem wp_peek1 {α:Type} {K:Frag} {M:Model} {A:Around} {E:Value→Shared→Prop} {Q:α→Shared→Prop} {s:Shared} {o:Obj} {r:Addr→α}
  (X:K.In s.heap) (q:Q (r s.heap.objs.size) { s with heap:=s.heap.push o }) :
  ∀ (t:Sem α) (g:Addr→Option α),peek1 K ⟨M.prog,M.w.params⟩ t=some (o,g)→(∀ D,g D=some (r D))→wpAny M A t Q E s:=by
 intro t
 induction t with
 | rule _ k ih=>intro g e hg Γ p hΓ;exact ih () g e hg Γ p hΓ
 | point _ k ih=>intro g e hg Γ p hΓ;exact ih () g e hg Γ p hΓ
 | ask k ih=>intro g e hg Γ p hΓ;exact ih _ g e hg Γ p hΓ
 | load a _ k ih =>
  intro g e hg Γ p hΓ
  simp only [peek1] at e
  split at e
  ·rename_i ob ho;exact ⟨ob,X _ _ ho,ih ob g e hg Γ p hΓ⟩
  ·cases e
 | alloc ob k _ =>
  intro g e hg
  have e:some (ob,fun D=>peek K ⟨M.prog,M.w.params⟩ (k D))=some (o,g):=e
  obtain ⟨e1,e2⟩:=Prod.mk.inj (Option.some.inj e)
  subst e1
  subst e2
  have X':K.In (s.heap.push ob):=X.keeps fun b x hb=>Heap.get?_push_of_some _ hb
  show wpAny M A (alloc ob >>= k) Q E s
  refine wpAny_bind (wpAny_alloc ?_)
  exact (Looks.of_peek (M:=M) (h:=s.heap.push ob) X' (hg s.heap.objs.size)).here (s:={ s with heap:=s.heap.push ob }) q
 | _=>intro g e;cases e
section
variable {c:Cfg} {A:Around} {F:FM} {σ:Sig} {s:Shared} {f:Addr} {fd:FuncData} {body:List Stmt}
theorem D_fnV {n:Nat} {xs:List SV} {Q:SV→Sig→Prop} {name qual:Str} {params:Arguments} {scope:Scope} {dV kV doc pm cdv ct oc:Value} {an od:Option Addr} {osl:Array (Option Value)} (ds:List PyData) (bs:List (Str×SV)) (cs:Addr→List (Str×Addr))
  (ho:c.K.lookup f=some ⟨oc,od,.func (fnOf name qual params body scope dV kV doc pm an cdv ct),osl⟩) (hcd:codeIn c.K cdv qual=true) (R:Rm (n+1) A)
  (hp:∀ F vs,Paired (VRel F) xs vs→∃ (ts:List Value) (g:Addr→Option (List (Str×Value))) (binds:Addr→List (Str×Value)),RDs F ds ts∧peek1 c.K ⟨c.prog,c.w.params⟩ (bindArgs (fnOf name qual params body scope dV kV doc pm an cdv ct) ⟨vs,[]⟩)=some (tupObj ts 0,g)∧(∀ D,g D=some (binds D)) ∧
   ∀ F' D,FLe F F'→RD F' (.tuple ds) (.ref D)→Paired (KV F') bs (binds D))
  (h:∀ L,FrOk σ L (cs L)→TF c (A.deeper (envOfC qual scope L f cdv)) (execs body (envOfC qual scope L f cdv)) (fr σ L (cs L) (bindAll bs fun _=>none)) (RetQ L (cs L) Q))
  (hcs:∀ L,csOf scope L=cs L)
  (hb:∀ L,∀ y∈bs,scope.names.lookup y.1=some .local∨(scope.names.lookup y.1=some .cell∧((csOf scope L).lookup y.1).isSome=true))
  (hnd:((cellsFrom 0 scope.names []).map (·.1)).Nodup) (hnames:(scope.names.map (·.1)).Nodup)
  (hco:autoParam (scope.isCoroutine=false) aR) (hgen:autoParam (scope.isGenerator=false) aR) (hk:autoParam (scope.kind=.function) aR):CodeT c A (.ref f) xs σ Q:=.mk fun F s E vs H r=>by
 obtain ⟨ts,g,binds,hts,he,hg,hbnd⟩:=hp F vs r
 refine codeAny_call_function R.lt (H.kin _ _ ho) rfl hco hgen rfl (codeRec_of H.kin hcd) (wp_peek1 (r:=binds) H.kin ?_ _ g he hg)
 obtain ⟨l,S0,X0⟩:=H.newF (h':=s.heap.push (tupObj ts 0)) (tk:=s.toks) (get_fresh _ (Nat.le_refl _)) (fun b o e=>Heap.get?_push_of_some _ e) (Heap.get?_push_size _ rfl)
 have rt:RD (updF F s.heap.objs.size (tupObj ts 0)) (.tuple ds) (.ref s.heap.objs.size):=by
  simp only [RD];exact ⟨_,ts,0,rfl,updF_self ..,hts.mono l⟩
 have p:=hbnd _ _ l rt
 have hnd':∀ L,((csOf scope L).map (·.1)).Nodup:=fun L=>cellsFrom_names scope.names 0 (L+1) [] [] rfl▸hnd
 have kv:∀ y∈binds s.heap.objs.size,∃ z∈bs,z.1=y.1:=fun y hy=>by
  obtain ⟨i,hi,e⟩:=List.mem_iff_getElem.mp hy
  obtain ⟨z,hz,q⟩:=paired_get' p (i:=i) (y:=y) (by rw [←e];simp [hi])
  exact ⟨z,List.mem_of_getElem? hz,q.1⟩
 refine wpAny_newFunctionEnv_cells hk (fun y hy=>by obtain ⟨z,hz,e⟩:=kv y hy;rw [←e];exact hb _ z hz) fun env he s₁ x=>?_
 subst he
 refine ⟨((c.top.nolimit).keeps S0.old).keeps x.toInCall.keep,codeAny_func ?_⟩
 have I:FnIs c f (fnOf name qual params body scope dV kV doc pm an cdv ct) body:=⟨⟨_,_,_,ho⟩,rfl,rfl,hcd,hco,hgen,hk,hnames⟩
 obtain ⟨ok,S,X⟩:=inCall_st I S0 p (hb _) (hnd' _) x
 rw [hcs] at ok S X
 exact wpAny_mono (body_wp (R:=fun r s'=>match r with | .ok (.ret v)=>Post c VRel F σ s Q v s' | .ok _=>False | .error e=>E e s') (X0.trans X) S (h _ ok) (fun v s'' hp=>hp)) (fun _ _ p=>p) fun _ _ e=>e
end
end Mine
end
section
namespace Mine
section
variable {c:Cfg} {A:Around} {F:FM} {σ:Sig} {s:Shared} {env:Env} {Q:SV→Sig→Prop}
theorem isInt_key {F:FM} {k:Int} {v:Value} (h:(intKind c.prog c.w).is k v=true):VRel F (.d (.int k)) v:=by
 have h:Value.isInt k v=true:=h
 cases v <;> simp [Value.isInt] at h
 rw [←h];exact rel_int _ _
theorem it_items {n:Nat} {d:Addr} {kvs:List (Int×PyData)} {elts:List Expr} {k:Nat} {pos':Pos} (R:Rm n A) (hd:DictR c (intKind c.prog c.w) σ d (kvs.map fun p=>(p.1,SV.d p.2))) (hq:Quiet (σ d)) :
  ItOf c A (.Tuple elts k pos') (.o { cls:=.type "dict_items",data:=.fields #[.ref d] }) σ (kvs.map fun p=>SV.d (.tuple [.int p.1,p.2])):=fun F s E v Q H r h=>by
 obtain ⟨vv,rfl,fv⟩:=r
 obtain ⟨⟨kvs',D,p⟩,hm⟩:=hd F s H
 obtain ⟨ep,D⟩:=D.dictAt
 obtain ⟨od,god⟩:=alive_dict D
 have hlt:=Heap.lt_size god
 refine wpAny_pyIter_items ⟨_,H.fz _ _ fv,rfl,rfl⟩ D ?_
 generalize hi0:s.heap.objs.size=it at *
 have hne:d≠it:=Nat.ne_of_lt hlt
 have hlen:kvs'.length=kvs.length:=by rw [←p.length,List.length_map]
 refine h it [it,d] [it] (fun i h=>(∃ ok ov,IsItemIter h it d i kvs'.length ep ok ov)∧h.DictAt (intKind c.prog c.w) d kvs' ep) _ s.toks ?_ ⟨⟨_,_,hi0▸Heap.get?_push_size _ rfl⟩,D.push _⟩ (fun b hb=>?_) (fun b hb=>?_) fun b o e=>Heap.get?_push_of_some _ e
 ·refine ⟨fun b hb=>?_,fun i h1 h2 hW hf=>?_,fun i h1 hW b hb=>?_,fun i y F2 σ2 s2 Q2 E2 hy hl2 H2 hw2 hW hQ=>?_,fun s2 Q2 E2 hW hQ=>?_,fun s2 Q2 E2 hW hQ=>?_⟩
  ·rw [List.mem_singleton.mp hb];exact .head _
  ·obtain ⟨⟨ok,ov,a⟩,b⟩:=hW
   refine ⟨⟨ok,ov,hf _ (by simp) _ a⟩,?_⟩
   obtain ⟨o,es,g,rest⟩:=b
   exact ⟨o,es,hf _ (by simp) _ g,rest⟩
  ·obtain ⟨⟨ok,ov,a⟩,b2⟩:=hW
   simp at hb
   rcases hb with rfl | rfl
   ·exact ⟨_,a⟩
   ·exact alive_dict b2
  ·obtain ⟨⟨ok,ov,a⟩,D2⟩:=hW
   rw [List.getElem?_map] at hy
   obtain ⟨q,hq2,rfl⟩:=Option.map_eq_some_iff.mp hy
   obtain ⟨w,hw,rw⟩:=paired_get p (i:=i) (x:=(q.1,SV.d q.2)) (by rw [List.getElem?_map,hq2];rfl)
   obtain ⟨k',w⟩:=w
   have e1:q.1=k':=rw.1
   subst e1
   refine wpAny_pyNext_items_item a D2 hw fun key h3 b1 b2 b3 b4 b5=>⟨_,rfl,?_⟩
   refine wpAny_letOwnedTupleGo_items b2 fun h4 c1 c2=>?_
   have hfr:=get_fresh s2.heap (Nat.le_refl _)
   have ie:it < s2.heap.objs.size:=Heap.lt_size a
   have k4:∀ b o,b∉[it]→s2.heap.get? b=some o→h4.get? b=some o:=fun b o hb e=>(c2.2 b (by simpa using hb)).trans (b5 b o (by simpa using hb) e)
   have g4:h4.get? s2.heap.objs.size=some (tupObj [key,w] 0):=(c2.2 _ (ane (Nat.ne_of_gt ie))).trans b3
   refine hQ _ (.ref s2.heap.objs.size) _ ?_ (turned_new (tk:=s2.toks) H2 hw2 k4 hfr g4) ⟨⟨_,_,c1⟩,?_⟩
   ·simp only [VRel,RD,RDs]
    obtain ⟨t,rfl⟩:=rd_int (isInt_key (c:=c) (F:=F2) b1)
    exact ⟨_,_,0,rfl,updF_self ..,_,_,rfl,⟨t,rfl⟩,_,_,rfl,(RD.mono hl2 rw.2).mono (updF_le (H2.deadF hfr)),rfl⟩
   ·obtain ⟨o,es,g,rest⟩:=D2
    exact ⟨o,es,k4 _ _ (by simpa using hne) g,rest⟩
  ·obtain ⟨⟨ok,ov,a⟩,D2⟩:=hW
   rw [List.length_map,←hlen] at a
   refine wpAny_pyNext_items_end R.hh a D2 (by simp) fun h3 hx=>⟨rfl,hQ h3 s2.toks fun b o hb e=>hx b o (by simpa using hb) e⟩
  ·obtain ⟨⟨ok,ov,a⟩,D2⟩:=hW
   exact kcp_self a hQ
 ·rw [List.mem_singleton.mp hb];exact hi0▸get_fresh _ (Nat.le_refl _)
 ·rcases List.mem_cons.mp hb with rfl | hb
  ·exact .inl (by simp)
  ·rw [List.mem_singleton.mp hb];exact .inr ⟨hq,_,god⟩
end
end Mine
end
section
namespace Mine
theorem meets_bool_new_list (l:Addr) (items:Array Value) (hz:(items.size:Int) < 2 ^ 63) :
  Meets (Builtin.«bool.__new__» ⟨[.type "bool",.ref l],[]⟩) (fun _ R s=>s.heap.IsList l items∧R (.ok (.ret (.bool (!items.isEmpty)))) { s with toks:=s.toks+1+1 }) :=
 Meets.of_wp fun prog w A R s hs=>by
  obtain ⟨hl,hs⟩:=hs
  have f1:=PySem.F.conv_sub_bool
  unfold Builtin.«bool.__new__»
  repeat (any_goals (first | assumption | (with_reducible refine wpAny_truthy_list hl hz ?_) | wp_step))
  exact ⟨_,rfl,hs⟩
section
variable {c:Cfg} {A:Around} {F F' F1:FM} {σ σ' σ1:Sig} {s s' s1 s2:Shared} {env:Env} {L:Addr} {cs:List (Str×Addr)} {m:Str→Option SV} {target:Expr}
theorem C_bool {x:SV} {xs:List SV} {Q:SV→Sig→Prop} (hx:AsList σ x xs) (hz:xs.length≤1000) (h:Q (.d (.bool (!xs.isEmpty))) σ):CallT c A (.type "bool") [x] σ Q:=.mk fun F s E vs H r=>by
 cases r with
 | cons r1 r =>
 cases r
 obtain ⟨l,ws,n,rfl,g,p⟩:=hx.get H r1
 have hlen:=p.length
 have e:(!ws.toArray.isEmpty)=(!xs.isEmpty):=by cases p <;> simp
 refine call_bool_1 (meets_bool_new_list l ws.toArray (by rw [List.size_toArray];exact om218 hz hlen)) ⟨isL g,?_⟩
 show _∧_
 refine ⟨rfl,?_⟩
 rw [e]
 exact post_boolT H _ _ h
theorem C_tuple {x:SV} {ds:List PyData} {Q:SV→Sig→Prop} (hx:AsList σ x (ds.map SV.d)) (hz:ds.length≤1000) (h:Q (.d (.tuple ds)) σ):CallT c A (.type "tuple") [x] σ Q:=.mk fun F s E vs H r=>by
 cases r with
 | cons r1 r =>
 cases r
 obtain ⟨l,ws,n,rfl,g,p⟩:=hx.get H r1
 have hlen:=p.length
 rw [List.length_map] at hlen
 refine call_tuple_list (isL g) (fun h' hk=>?_) (by rw [List.size_toArray,sizeLine_eq];exact om219 hz hlen)
 have S:=H.same (h':=h') (tk:=s.toks) hk
 obtain ⟨l',S2,X2⟩:=S.1.newF (h':=h'.push (tupObj ws 0)) (tk:=s.toks) (get_fresh _ (Nat.le_refl _)) (fun b o e=>Heap.get?_push_of_some _ e) (Heap.get?_push_size _ rfl)
 refine ⟨_,σ,.d (.tuple ds),?_,S2,S.2.trans X2,h⟩
 simp only [VRel,RD]
 exact ⟨_,ws,0,rfl,updF_self ..,(rds_of_paired p).mono l'⟩
theorem adoptT {D:Addr} {o:SObj} (H:St c F σ s) (X:Ext F1 σ1 s1 F σ s) (h1:s1.heap.get? D=none) (h2:σ D=none) (h3:F D=none) (g:Holds c F D o s.heap) :
  St c F (upd σ D (some o)) s∧Ext F1 σ1 s1 F (upd σ D (some o)) s:=by
 refine ⟨⟨H.base,H.fz,fun b x e=>?_⟩,⟨X.fle,X.keep,X.alive,fun b x e q=>?_,X.rest⟩⟩
 ·by_cases q:b=D
  ·subst q;rw [upd_self] at e;cases e;exact ⟨h3,g⟩
  ·rw [upd_ne _ _ q] at e;exact H.tr b x e
 ·have nq:b≠D:=fun z=>by rw [z,h1] at e;cases e
  rw [upd_ne _ _ nq]
  exact X.prov b x e q
theorem T_listcompT {ifs:List Expr} {elt iter:Expr} {scope:Scope} {pos:Pos} {cl:List (Str×Addr)} {Q:SV→Sig→Prop}
  (h:TV c A (eval iter env) σ (fun x σ1=>∃ (xs:List SV) (g:SV→Option PyData),ItOf c A target x σ1 xs∧xs.length≤1000 ∧
   (∀ C,σ1 C=none→∀ y∈xs,CB c A target ifs elt (compEnvC scope cl C env) σ1 C y ((g y).map SV.d))∧∀ D,σ1 D=none→Q (.ref D) (upd σ1 D (some (.list ((xs.filterMap g).map SV.d))))))
  (hclos:closureFor scope env=pure cl) (hcell:∀ y∈scope.names,y.2≠.cell) (hkind:scope.kind=.function)
  (hnames:∀ y∈scope.names,y.2=.local→scope.names.lookup y.1=some .local) (hs:∀ x,foldedSetIterable iter env x=pure x) :
  TV c A (eval (.ListComp elt [⟨target,iter,ifs,0⟩] scope pos) env) σ Q:=.mk fun F0 s0 E H0=>by
 rw [eval_ListComp]
 refine wpAny_comprehension_free (use:=none) rfl hs hclos hkind hnames (h.wp H0 fun v s1 F1 σ1 x r1 H1 X1 q1=>?_)
 obtain ⟨xs,g,hit,hz,body,q⟩:=q1
 refine hit F1 s1 E v _ H1 r1 fun I fp wr W h' tk K hw hd hq hk=>?_
 have B0:=Btw.start (tk:=tk) H1 K hw hd hq hk
 have hD1:∀ a,h'.objs.size≤a→s1.heap.get? a=none:=fun a ha=>by
  cases e:s1.heap.get? a with
  | none=>rfl
  | some o=>have z:a < h'.objs.size:=Heap.lt_size (hk a o e);omega
 have dead:∀ a,s1.heap.get? a=none→σ1 a=none∧F1 a=none:=fun a ha=>by
  constructor
  ·cases e:σ1 a with
   | none=>rfl
   | some o=>obtain ⟨ob,gg⟩:=(H1.tr a o e).2.alive;rw [ha] at gg;cases gg
  ·cases e:F1 a with
   | none=>rfl
   | some o=>have:=H1.fz a o e;rw [ha] at this;cases this
 refine wpAny_newObj_type (wpAny_newFunctionEnv hcell (by intro y hy;simp at hy) (fun h₁ hns₁ hsb₁=>?_) hkind)
 dsimp only at hns₁ hsb₁ ⊢
 generalize hH2:h'.push { cls:=.type "list",dict:=none,data:=.seq ([]:List Value).toArray }=H2 at hns₁ hsb₁ ⊢
 have hCs:H2.objs.size=h'.objs.size+1:=by rw [←hH2,Heap.size_push]
 have hDC:h'.objs.size≠H2.objs.size:=by exact om206 hCs
 have old:∀ b o,h'.get? b=some o→h₁.get? b=some o:=fun b o e=>hsb₁.extBut b o (by
  have z:b < h'.objs.size:=Heap.lt_size e
  exact Nat.ne_of_lt (Nat.lt_trans z (show h'.objs.size < H2.objs.size by exact om205 hCs))) (Heap.get?_push_of_some _ (hH2▸Heap.get?_push_of_some _ e))
 have gD:h₁.get? h'.objs.size=some (listObj [] 0):=hsb₁.extBut _ _ hDC (Heap.get?_push_of_some _ (hH2▸Heap.get?_push_size _ rfl))
 have hC1:=hD1 H2.objs.size (om207 hCs)
 have hDd:=hD1 h'.objs.size (Nat.le_refl _)
 have S:=B0.st.new (h':=h₁) (tk:=tk+([]:List (Str×Value)).length) (a:=H2.objs.size) (o:=.ns (hideC [] fun _=>none)) (by
  show h'.get? _=none
  exact get_fresh _ (show h'.objs.size≤H2.objs.size by exact om207 hCs)) old ⟨_,hns₁,fun x v e=>by simp [hideC] at e⟩
 have hfr0:upd σ1 H2.objs.size (some (.ns (hideC [] fun _=>none)))=fr σ1 H2.objs.size [] (fun _=>none):=by
  funext b
  by_cases q:b=H2.objs.size
  ·subst q;rw [upd_self,fr_self]
  ·rw [upd_ne _ _ q,fr_other q (fun _ h=>by cases h)]
 rw [hfr0] at S
 have B1:=B0.step K S.2 S.1
 have hDf:h'.objs.size∉fp:=fun hm=>by
  obtain ⟨o,e⟩:=K.live 0 _ hw _ hm
  exact absurd (Heap.lt_size e) (Nat.lt_irrefl _)
 have loop:∀ s₂:Shared,s₂={ s1 with heap:=h₁,toks:=tk+([]:List (Str×Value)).length } →
   codeAny c.M A (.compLoop (.ListComp elt [⟨target,iter,ifs,0⟩] scope pos) 0 (.ref I) (.ref h'.objs.size) (compEnvC scope cl H2.objs.size env)) (compPost c.M A E none (Post c VRel F0 σ s0 Q) (.ref h'.objs.size) H2.objs.size) s₂:=by
  rintro s₂ rfl
  refine comp_loop K (.refl _) hd hDf hDd (dead _ hDd).1 hDC hz (body _ (dead _ hC1).1) B1 ⟨0,gD⟩ (dead _ hDd).2 fun F' m vs n s' H' X' fD gD' p=>?_
  obtain ⟨_,m',hn,_⟩:=H'.tr _ _ (fr_self σ1 H2.objs.size [] m)
  refine ⟨m',hn,fun h'' hs''=>?_⟩
  obtain ⟨H'',X''⟩:=comp_out H' X' hC1 (dead _ hC1).1 hs''
  have S2:=adoptT (D:=h'.objs.size) H'' X'' hDd (dead _ hDd).1 fD (show Holds c F' h'.objs.size (.list ((xs.filterMap g).map SV.d)) _ from ⟨vs,n,(hs''.2 _ hDC).trans gD',p⟩)
  exact ⟨F',_,.ref h'.objs.size,rfl,S2.1,X1.trans S2.2,q _ (dead _ hDd).1⟩
 exact codeAny_compStart_list (loop _ rfl) (K.self _ _ _ (K.frame 0 _ _ hw fun b hb o e=>old b o e) (loop _ rfl))
theorem t_compT {α:Type} {ys:List α} {ifs:List Expr} {elt iter:Expr} {scope:Scope} {pos:Pos} {cl:List (Str×Addr)} {Q:SV→Sig→Prop} (e:α→SV) (g:α→Option PyData) (he:∀ a∈ys,∀ b∈ys,e a=e b→g a=g b)
  (h:TV c A (eval iter env) σ (fun x σ1=>ItOf c A target x σ1 (ys.map e)∧ys.length≤1000 ∧
   (∀ C,σ1 C=none→∀ y∈ys,CB c A target ifs elt (compEnvC scope cl C env) σ1 C (e y) ((g y).map SV.d))∧∀ D,σ1 D=none→Q (.ref D) (upd σ1 D (some (.list ((ys.filterMap g).map SV.d))))))
  (hclos:autoParam (closureFor scope env=pure cl) aR) (hcell:autoParam (∀ y∈scope.names,y.2≠.cell) aD) (hkind:autoParam (scope.kind=.function) aR)
  (hnames:autoParam (∀ y∈scope.names,y.2=.local→scope.names.lookup y.1=some .local) aD) (hs:∀ x,foldedSetIterable iter env x=pure x:=by exact fun _=>rfl) :
  TV c A (eval (.ListComp elt [⟨target,iter,ifs,0⟩] scope pos) env) σ Q:=by
 refine T_listcompT (h.mono fun x σ1 hh=>?_) hclos hcell hkind hnames hs
 obtain ⟨h1,h2,h3,h4⟩:=hh
 obtain ⟨g',hg,hm⟩:=comp_pick e g he
 refine ⟨ys.map e,g',h1,by rw [List.length_map];exact h2,fun C hC y hy=>?_,?_⟩
 ·obtain ⟨a,ha,rfl⟩:=List.mem_map.mp hy
  rw [hg a ha];exact h3 C hC a ha
 ·rw [hm];exact h4
theorem St.relock (H:St c F σ s) (h:∀ a,σ' a=σ a∨∃ o,σ a=some o∧o.isRo=false∧σ' a=some (.ro o)):St c F σ' s∧Ext F σ s F σ' s:=by
 refine ⟨⟨H.base,H.fz,fun b x e=>?_⟩,⟨.refl F,fun _ _ _ e=>e,fun b x e=>⟨x,e⟩,fun b x g e=>⟨?_,rfl⟩,rfl⟩⟩
 ·rcases h b with q | ⟨o,q,_,r⟩
  ·exact H.tr b x (q▸e)
  ·rw [r] at e;cases e;exact H.tr b o q
 ·rcases h b with q | ⟨o,q,r,_⟩
  ·exact q
  ·rw [q] at e;exact absurd e (not_quiet r)
theorem TG.relock {α β:Type} {Rv:FM→β→α→Prop} {t:Sem α} {Q:β→Sig→Prop} (h:∀ a,σ' a=σ a∨∃ o,σ a=some o∧o.isRo=false∧σ' a=some (.ro o)) (T:TG c Rv A t σ' Q):TG c Rv A t σ Q :=
 .mk fun F s E H=>let ⟨H',X⟩:=H.relock h;wpAny_mono (T.run F s E H') (fun _ _ p=>p.lift X) fun _ _ e=>e
end
end Mine
end
section
namespace Mine
theorem slot_li_ga:Slot "list_iterator" "__getattribute__" "object.__getattribute__" :=
 .of (owner := "object") (n := "__getattribute__") (by rw [typeLookup_type,builtinLookup_eq_fast];kernel_rfl) (by decide +kernel) (by decide +kernel) (by decide +kernel)
  (by first | exact .inl (by decide +kernel) | exact .inr (by decide +kernel)) (by rw [isSubtype_type];kernel_rfl)
theorem lk_next:typeLookup (.type "list_iterator") "__next__"=pure (some (.builtin "list_iterator.__next__")):=slot_listiter_next.lookup
theorem ty_next:typeOf (.builtin "list_iterator.__next__")=pure (.type "wrapper_descriptor"):=by show builtinType _=_;rw [builtinType_eq_fast];kernel_rfl
theorem wd_get:typeLookup (.type "wrapper_descriptor") "__get__"=pure (some (.builtin "wrapper_descriptor.__get__")):=by rw [typeLookup_type,builtinLookup_eq_fast];kernel_rfl
theorem wd_set:typeLookup (.type "wrapper_descriptor") "__set__"=pure none:=by rw [typeLookup_type,builtinLookup_eq_fast];kernel_rfl
theorem wd_del:typeLookup (.type "wrapper_descriptor") "__delete__"=pure none:=by rw [typeLookup_type,builtinLookup_eq_fast];kernel_rfl
noncomputable abbrev nextObj (it:Addr):Obj:={ cls:=.type "method-wrapper",data:=.fields #[.builtin "list_iterator.__next__",.ref it] }
noncomputable abbrev iterObj (l:Addr):Obj:={ cls:=.type "list_iterator",data:=.fields #[.ref l,.int 0 0] }
theorem slot_wd_get:Slot "wrapper_descriptor" "__get__" "wrapper_descriptor.__get__" :=
 .of (owner := "wrapper_descriptor") (n := "__get__") (by rw [typeLookup_type,builtinLookup_eq_fast];kernel_rfl) (by decide +kernel) (by decide +kernel) (by decide +kernel)
  (by first | exact .inl (by decide +kernel) | exact .inr (by decide +kernel)) (by rw [isSubtype_type];kernel_rfl)
theorem entry_wd_get:entryFor table "wrapper_descriptor.__get__"=some Builtin.«wrapper_descriptor.__get__»:=entryFor_of_tree (by kernel_rfl)
theorem args_wd_get (a b c:Value):argsOk "wrapper_descriptor.__get__" ⟨[a,b,c],[]⟩:=by unfold argsOk;kernel_rfl
theorem sub_li:isSubtype (.type "list_iterator") (.type "list_iterator")=pure true:=by rw [isSubtype_type];kernel_rfl
section
variable {M:Model} {A:Around} {E:Value→Shared→Prop} {s:Shared}
theorem run_wd {P:Fin→Shared→Prop} {a:Addr} (hT:s.TypeIs (.ref a) "list_iterator") (h:P (.done (.ret (.ref s.heap.objs.size))) { s with heap:=s.heap.push (nextObj a) }) :
  wpAny M A (Builtin.«wrapper_descriptor.__get__» ⟨[.builtin "list_iterator.__next__",.ref a,.type "list_iterator"],[]⟩) P E s:=by
 unfold Builtin.«wrapper_descriptor.__get__»
 refine wpAny_bind (wpAny_of_eq (a:=(.builtin "list_iterator.__next__",some (.ref a),some (.type "list_iterator"))) (by first | rfl | kernel_rfl) ?_)
 dsimp only
 refine wpAny_bind ?_
 refine wpAny_bind (wpAny_of_eq (a:=(Str.ofString "__next__",.type "list_iterator")) (by first | rfl | kernel_rfl) ?_)
 dsimp only
 refine wpAny_bind (wpAny_isInstance hT sub_li ?_)
 refine wpAny_pure ?_
 exact wpAny_bind (wpAny_newObj_type (wpAny_pure h))
end
theorem meets_ga_next (a l:Addr) (u:Tok) :
  Meets (Builtin.«object.__getattribute__» ⟨[.ref a,.str (Str.ofString "__next__") u],[]⟩) (fun A R s=>s.heap.get? a=some (iterObj l)∧R (.ok (.ret (.ref s.heap.objs.size))) { s with heap:=s.heap.push (nextObj a) }) :=
 Meets.of_wp fun prog w A R s hs=>by
  obtain ⟨hp,g,d,tk,os⟩:=s
  obtain ⟨hx,hs⟩:=hs
  have hT:(⟨hp,g,d,tk,os⟩:Shared).TypeIs (.ref a) "list_iterator":=⟨_,hx,rfl⟩
  have hT2:(⟨hp,g,d,tk,os⟩:Shared).TypeIs (.builtin "list_iterator.__next__") "wrapper_descriptor":=ty_next
  have f1:=lk_next
  have f2:=ty_next
  have f3:=wd_get
  have f4:=wd_set
  have f5:=wd_del
  unfold Builtin.«object.__getattribute__»
  repeat (any_goals (first | assumption | ((with_reducible show wpAny _ _ (call (Value.builtin "wrapper_descriptor.__get__") _ _) _ _ _);refine wpAny_call_entry slot_wd_get hT2 entry_wd_get (run_wd hT ⟨_,rfl,?_⟩) (args_wd_get _ _ _)) | wp_step))
  exact ⟨_,rfl,hs⟩
theorem li_getattr_none:typeLookup (.type "list_iterator") "__getattr__"=pure none:=by rw [typeLookup_type,builtinLookup_eq_fast];kernel_rfl
section
variable {prog:Program} {w:World} {A:Around} {E:Value→Shared→Prop} {s:Shared}
theorem getAttr_next {a l:Addr} {Q:Value→Shared→Prop} (hx:s.heap.get? a=some (iterObj l)) (h:Q (.ref s.heap.objs.size) { s with heap:=s.heap.push (nextObj a),toks:=s.toks+1 }) :
  wpAny (model prog w) A (getAttr (.ref a) (Str.ofString "__next__") true) Q E s:=by
 obtain ⟨hp,g,d,tk,os⟩:=s
 have hT:∀ tk',(⟨hp,g,d,tk',os⟩:Shared).TypeIs (.ref a) "list_iterator":=fun _=>⟨_,hx,rfl⟩
 have f3:=slot_li_ga.lookup
 have f4:=slot_li_ga.bind (.ref a)
 have f5:=li_getattr_none
 unfold getAttr getAttrBy
 repeat (any_goals (first | assumption | exact hT _ | ((with_reducible show wpAny _ _ (call (Value.builtin "object.__getattribute__") _ _) _ _ _);refine call_meets slot_li_ga (hT _) PySem.F.entry_object_getattribute (PySem.F.args_object_getattribute_2 _ _) (meets_ga_next a l _) ⟨hx,?_⟩) | wp_step))
 show wpAny _ _ (handedOut _) _ _ _
 exact handed_on rfl h
end
section
variable {prog:Program} {w:World} {A:Around} {E:Value→Shared→Prop} {s:Shared}
theorem tree_next_item {it l:Addr} {i:Nat} {items:Array Value} {x:Value} {P:Fin→Shared→Prop} (hit:s.heap.IsListIter it l i) (hl:s.heap.IsList l items) (hx:items[i]?=some x)
  (h:∀ h':Heap,h'.IsListIter it l (i+1)→Heap.SameBut it s.heap h'→P (.done (.ret x)) { s with heap:=h' }):wpAny (model prog w) A (Builtin.«list_iterator.__next__» ⟨[.ref it],[]⟩) P E s:=by
 obtain ⟨o,ho,hc,hd⟩:=id hit
 obtain ⟨ol,hol,_,nl,hdl⟩:=hl
 show wpAny _ _ (field (.ref it) 0 >>= _) _ _ s
 refine wpAny_bind (wpAny_field ho hd (x:=.ref l) rfl ?_)
 show wpAny _ _ (if (Value.ref l == Value.none)=true then _ else _) _ _ s
 rw [if_neg (show ¬((Value.ref l == Value.none)=true) from Bool.false_ne_true)]
 show wpAny _ _ (field (.ref it) 1 >>= _) _ _ s
 refine wpAny_bind (wpAny_field ho hd (x:=.int i 0) rfl ?_)
 show wpAny _ _ (seqItems? (.ref l) >>= _) _ _ s
 refine wpAny_bind (wpAny_seqItems hol hdl ?_)
 simp only [Int.toNat_natCast,hx]
 refine wpAny_bind (wpAny_setField ho hd (by simp) (wpAny_pure (h _ ?_ (Heap.SameBut.update ..))))
 exact ⟨_,Heap.get?_update_self _ ho (Obj.isFreed_of_fields (Obj.data_mapFields hd _)),(Obj.cls_mapFields ..).trans hc,by
  rw [Obj.data_mapFields hd];simp [rawInt]⟩
noncomputable abbrev stopObj (t0:Addr):Obj:={ cls:=.type "StopIteration",data:=.fields #[.ref t0,.none,.none,.none,.bool false,.none] }
theorem tree_next_end {it l:Addr} {i:Nat} {items:Array Value} {P:Fin→Shared→Prop} (hh:A.handled=none) (hit:s.heap.IsListIter it l i) (hl:s.heap.IsList l items) (hx:items[i]?=none)
  (h:∀ (h':Heap) t0 e,Heap.ExtBut it s.heap h'→(∃ o,h'.get? it=some o)→s.heap.get? e=none→h'.get? e=some (stopObj t0)→E (.ref e) { s with heap:=h' }):wpAny (model prog w) A (Builtin.«list_iterator.__next__» ⟨[.ref it],[]⟩) P E s:=by
 obtain ⟨o,ho,hc,hd⟩:=id hit
 obtain ⟨ol,hol,_,nl,hdl⟩:=hl
 show wpAny _ _ (field (.ref it) 0 >>= _) _ _ s
 refine wpAny_bind (wpAny_field ho hd (x:=.ref l) rfl ?_)
 show wpAny _ _ (if (Value.ref l == Value.none)=true then _ else _) _ _ s
 rw [if_neg (show ¬((Value.ref l == Value.none)=true) from Bool.false_ne_true)]
 show wpAny _ _ (field (.ref it) 1 >>= _) _ _ s
 refine wpAny_bind (wpAny_field ho hd (x:=.int i 0) rfl ?_)
 show wpAny _ _ (seqItems? (.ref l) >>= _) _ _ s
 refine wpAny_bind (wpAny_seqItems hol hdl ?_)
 simp only [Int.toNat_natCast,hx]
 refine wpAny_bind (wpAny_rule (wpAny_bind (wpAny_setField ho hd (by simp) ?_)))
 show wpAny _ _ (newExc (.type "StopIteration") [] >>= _) _ _ _
 refine wpAny_bind ?_
 simp only [newExc,newTuple]
 refine wpAny_bind (wpAny_newObj_type ?_ (by size_fits))
 refine wpAny_bind (m:=firstArgMember _ _) (wpAny_of_eq (a:=Value.none) (by first | rfl | (simp only [firstArgMember];rfl)) ?_)
 refine wpAny_newObj_type ?_ (by size_fits)
 simp only [raiseNew]
 refine wpAny_bind (wpAny_handled ?_)
 rw [hh]
 refine wpAny_bind (wpAny_pure (wpAny_throw ?_))
 refine h _ _ _ (((Heap.SameBut.update ..).extBut.push _).push _) ?_ ?_ (Heap.get?_push_size _ rfl)
 ·exact ⟨_,Heap.get?_push_of_some _ (Heap.get?_push_of_some _ (Heap.get?_update_self _ ho (Obj.isFreed_of_fields (Obj.data_mapFields hd _))))⟩
 ·refine get_fresh _ ?_
  rw [Heap.size_push,Heap.size_update]
  exact Nat.le_succ _
theorem check_next (it:Addr):checkBoundCall "list_iterator.__next__" ⟨[.ref it],[]⟩=pure ():=by first | kernel_rfl | rfl
theorem quiet_next {as:Args}:(Code.builtin "list_iterator.__next__" as).quiet=true:=Code.quiet_builtin _ (by decide +kernel)
theorem call_wrapped {u it:Addr} {Q:Value→Shared→Prop} (hu:s.heap.get? u=some (nextObj it)) (h:∀ A',A'.handled=A.handled→wpAny (model prog w) A' (Builtin.«list_iterator.__next__» ⟨[.ref it],[]⟩) (fun fin s'=>∃ v,fin=.done (.ret v)∧Q v s') E s) :
  wpAny (model prog w) A (call (.ref u) []) Q E s:=by
 refine wpAny_call (codeAny_of_tree ?_)
 show wpAny _ A.in1 (callAny (.ref u) ⟨[],[]⟩) _ _ s
 simp only [callAny]
 refine wpAny_bind (wpAny_load hu ?_)
 simp only [show (Value.type "method-wrapper" == Value.type "method" || Value.type "method-wrapper" == Value.type "builtin_function_or_method" || Value.type "method-wrapper" == Value.type "method-wrapper")=true by decide,if_true]
 refine KFB.if_so (by decide) ?_
 refine wpAny_bind (wpAny_of_eq (a:=()) (check_next it) ?_)
 refine wpAny_bind (wpAny_pure (wpAny_pure ?_))
 refine ⟨quiet_next,codeAny_builtin entry_listiter_next ?_⟩
 exact wpAny_mono (h _ rfl) (fun fin s' ⟨v,e,q⟩=>by subst e;exact q) fun _ _ e=>e
end
end Mine
end
section
namespace Mine
noncomputable def freeObj:Obj:={ cls:=.none,data:=.freed }
noncomputable def freeAll (h:Heap):List Addr→Heap
 | []=>h
 | a :: r=>(freeAll h r).update a fun _=>freeObj
theorem get_freed (h:Heap) (a:Addr):(h.update a fun _=>freeObj).get? a=none:=by
 obtain ⟨objs,l⟩:=h
 unfold Heap.get? Heap.update
 dsimp only
 rw [Array.getElem?_modify]
 cases e:objs[a]? with
 | none=>simp
 | some o=>simp [freeObj]
theorem freeAll_get (h:Heap):∀ (l:List Addr) (a:Addr),(freeAll h l).get? a=if a∈l then none else h.get? a
 | [],a=>by simp [freeAll]
 | b :: r,a=>by
  unfold freeAll
  by_cases q:a=b
  ·subst q;rw [get_freed];simp
  ·rw [Heap.get?_update_other _ _ (Ne.symm q),freeAll_get h r a]
   simp [q]
noncomputable def FrA (A:Around) (σ:Sig) (l:List Env):Prop:=A.frames=some l∧∀ e∈l,e.scope.kind≠.module∧∃ L m,e.frame=some L∧σ L=some (.ns m)
section
variable {c:Cfg} {A:Around} {F:FM} {σ:Sig} {s:Shared} {env:Env} {α β:Type} {L:Addr} {cs:List (Str×Addr)} {m:Str→Option SV}
theorem FrA.deeper {l:List Env} (h:FrA A σ l) (hk:env.scope.kind≠.module) (hf:env.frame=some L) (ok:FrOk σ L cs):FrA (A.deeper env) (fr σ L cs m) (env :: l):=by
 refine ⟨by show A.frames.map (env :: ·)=_;rw [h.1];rfl,fun e he=>?_⟩
 rcases List.mem_cons.mp he with rfl | he
 ·exact ⟨hk,L,_,hf,fr_self ..⟩
 ·obtain ⟨h1,L',m',h2,h3⟩:=h.2 e he
  exact ⟨h1,L',m',h2,fr_some ok h3⟩
theorem FrA.keep {σ':Sig} {l:List Env} (h:FrA A σ l) (k:∀ a m,σ a=some (.ns m)→∃ m',σ' a=some (.ns m')):FrA A σ' l :=
 ⟨h.1,fun e he=>let ⟨h1,L',m',h2,h3⟩:=h.2 e he;let ⟨m2,h4⟩:=k _ _ h3;⟨h1,L',m2,h2,h4⟩⟩
inductive Stop (c:Cfg) (F:FM) (σ:Sig) (s:Shared) (X:Sig→Prop) (e:Value) (s':Shared):Prop
 | mk (F':FM) (σ':Sig) (a t0:Addr) (h1:e=.ref a) (h2:St c F' σ' s') (h3:Ext F σ s F' σ' s') (h4:F' a=none) (h5:σ' a=none) (h6:s.heap.get? a=none) (h7:s'.heap.get? a=some (stopObj t0)) (h8:X σ'):Stop c F σ s X e s'
theorem Stop.lift {F1:FM} {σ1:Sig} {s1 s':Shared} {X:Sig→Prop} {e:Value} (x:Ext F σ s F1 σ1 s1) (h:Stop c F1 σ1 s1 X e s'):Stop c F σ s X e s':=by
 obtain ⟨F',σ',a,t0,h1,h2,h3,h4,h5,h6,h7,h8⟩:=h
 refine ⟨F',σ',a,t0,h1,h2,x.trans h3,h4,h5,?_,h7,h8⟩
 cases e:s.heap.get? a with
 | none=>rfl
 | some o=>obtain ⟨o',e'⟩:=x.alive a o e;rw [h6] at e';cases e'
structure TX (c:Cfg) (Rv:FM→β→α→Prop) (A:Around) (t:Sem α) (σ:Sig) (Q:β→Sig→Prop) (X:Sig→Prop):Prop where
 run:∀ F s E,St c F σ s→(∀ e s',Stop c F σ s X e s'→E e s')→wpAny c.M A t (Post c Rv F σ s Q) E s
variable {Q:SFlow→Sig→Prop} {X:Sig→Prop}
theorem X_cons {st:Stmt} {rest:List Stmt} (h:TX c RF A (exec st env) σ (Nx c A rest env Q) X):TX c RF A (execs (st :: rest) env) σ Q X:=.mk fun F s E H hE =>
 wpAny_execs_cons (wpAny_mono (h.run F s E H hE) (fun f s1 ⟨F1,σ1,x,r,H1,X1,q⟩=>by
  cases x with
  | next=>cases r;exact wpAny_mono (q.run F1 s1 E H1) (fun _ _ p=>p.lift X1) fun _ _ e=>e
  | brk=>cases r;exact ⟨_,_,.brk,rfl,H1,X1,q⟩
  | cont=>cases r;exact ⟨_,_,.cont,rfl,H1,X1,q⟩
  | ret x=>obtain ⟨v,rfl,r⟩:=r;exact ⟨_,_,.ret x,⟨v,rfl,r⟩,H1,X1,q⟩) fun _ _ e=>e)
theorem X_assign {x:Str} {p' pos:Pos} {e:Expr} (h:TX c VRel A (eval e env) σ (fun v σ1=>T1 c RU A (storeName env x) v σ1 (fun _ σ2=>Q .next σ2)) X) (hs:autoParam (swapsWith e (some (.Name x p')) pos.line env=pure false) aR) :
  TX c RF A (exec (.Assign [.Name x p'] e pos) env) σ Q X:=.mk fun F s E H hE =>
 wpAny_Assign_Name (wpAny_mono (h.run F s E H hE) (fun v s1 ⟨F1,σ1,x,r1,H1,X1,q1⟩=>wpAny_mono (q1.run F1 s1 E v H1 r1) (fun _ _ ⟨F2,σ2,_,_,H2,X2,q2⟩=>⟨F2,σ2,.next,rfl,H2,X1.trans X2,q2⟩) fun _ _ e=>e) fun _ _ e=>e) hs
noncomputable def NextQ (it l:Addr) (xs:List SV) (i:Nat) (σ:Sig) (Q:SV→Sig→Prop) (X:Sig→Prop):Prop :=
 match xs[i]? with
 | some x=>Q x (upd σ it (some (.liter l (i+1))))
 | none=>X (upd σ it none)
theorem arm_call_sub (v i:Expr) (p pos:Pos) (env:Env):eval (.Call (.Subscript v i p) [] [] pos) env=(do callWith pos (←eval (.Subscript v i p) env) [] (backTo pos (starEach [] env)) (backToKw pos (keywordEach [] env))):=rfl
theorem X_next {v i:Expr} {p pos:Pos} {Q:SV→Sig→Prop} (hh:A.handled=none)
  (h:TV c A (eval (.Subscript v i p) env) σ (fun f σ1=>∃ it l xs k,f=.o (nextObj it)∧σ1 it=some (.liter l k)∧Rd σ1 l (.list xs)∧NextQ it l xs k σ1 Q X)):TX c VRel A (eval (.Call (.Subscript v i p) [] [] pos) env) σ Q X:=.mk fun F s E H hE=>by
 rw [arm_call_sub]
 refine wpAny_bind (h.wp H fun fv s1 F1 σ1 x r1 H1 X1 q1=>?_)
 obtain ⟨it,l,xs,k,rfl,hit,hl,q⟩:=q1
 obtain ⟨u,rfl,fu⟩:=r1
 have gu:=H1.fz _ _ fu
 have hne:l≠it:=fun e=>by
  rcases hl with z | z <;> rw [e,hit] at z <;> cases z
 obtain ⟨hFit,I⟩:=H1.tr _ _ hit
 have I:s1.heap.IsListIter it l k:=I
 obtain ⟨_,vs,n,gl,pp⟩:=hl.holds H1
 refine callWith_any (P:=fun h=>h.get? u=some (nextObj it)) (first:=[]) (fun h g=>⟨.machine,(Looks.ld (part:=none) g).andThen .now⟩) (evalArgs_nil3 ⟨gu,?_⟩)
 ·show wpAny _ _ (call (.ref u) []) _ _ _
  refine call_wrapped gu fun A' hA'=>?_
  unfold NextQ at q
  cases e:xs[k]? with
  | some y =>
   rw [e] at q
   obtain ⟨w,hw,rw⟩:=paired_get pp e
   refine tree_next_item I (isL gl) (by simpa using hw) fun h' hI hs=>⟨w,rfl,?_⟩
   have S:=H1.set (o:=.liter l (k+1)) (h':=h') (tk:=s1.toks) hit (fun b o hb e=>(hs.2 b hb).trans e) hI
   exact ⟨F1,_,y,rw,S.1,X1.trans S.2,q⟩
  | none =>
   rw [e] at q
   have hw:vs.toArray[k]?=none:=by
    have hlen:=pp.length
    rw [List.getElem?_eq_none_iff] at e
    simp;exact om278 e hlen
   refine tree_next_end (hA'.trans hh) I (isL gl) hw fun h' t0 e' hs halive hdead he=>hE _ _ ?_
   have hk:∀ b o,b≠it→s1.heap.get? b=some o→h'.get? b=some o:=fun b o hb e=>hs b o hb e
   refine Stop.lift X1 ⟨F1,upd σ1 it none,e',t0,rfl,⟨H1.base,fun b o eb=>hk b o (fun z=>by rw [z,hFit] at eb;cases eb) (H1.fz b o eb),fun b o eb=>?_⟩,⟨.refl F1,fun b o qb eb=>hk b o (fun z=>by rw [z,hit] at qb;exact not_quiet rfl qb) eb,fun b o eb=>?_,fun b o eb qb=>⟨?_,rfl⟩,rfl⟩,H1.deadF hdead,?_,hdead,he,q⟩
   ·have hb:b≠it:=fun z=>by rw [z,upd_self] at eb;cases eb
    rw [upd_ne _ _ hb] at eb
    exact ⟨(H1.tr b o eb).1,(H1.tr b o eb).2.at fun ob g=>hk b ob hb g⟩
   ·by_cases z:b=it
    ·exact z▸halive
    ·exact ⟨o,hk b o z eb⟩
   ·rw [upd_ne _ _ (fun z=>by rw [z,hit] at qb;exact not_quiet rfl qb)]
   ·by_cases z:e'=it
    ·rw [z,upd_self]
    ·rw [upd_ne _ _ z];exact H1.deadσ hdead
theorem St.framed {F0 F1:FM} {σ0 σ1:Sig} {s0 s1:Shared} {h':Heap} {l:List Env} {e:Addr} (H:St c F1 σ1 s1) (Y:Ext F0 σ0 s0 F1 σ1 s1) (fa:FrA A σ1 l) (he:σ1 e=none) (hF:F1 e=none) (h0:s0.heap.get? e=none)
  (k1:∀ b o,b≠e→b∉l.filterMap (·.frame)→s1.heap.get? b=some o→h'.get? b=some o) (k2:∀ b o,s1.heap.get? b=some o→(∀ vs,o.data≠.fields vs)→∃ sl,h'.get? b=some { o with slots:=sl }) :
  St c F1 σ1 { s1 with heap:=h' }∧Ext F0 σ0 s0 F1 σ1 { s1 with heap:=h' }:=by
 have hfr:∀ b∈l.filterMap (·.frame),∃ m,σ1 b=some (.ns m):=fun b hb=>by
  obtain ⟨x,hx,e⟩:=List.mem_filterMap.mp hb
  obtain ⟨_,L',m',e2,h3⟩:=fa.2 x hx
  rw [e2] at e;cases e;exact ⟨m',h3⟩
 have nd:∀ b,∀ m,σ1 b=some (.ns m)→∀ o,s1.heap.get? b=some o→∃ sl,h'.get? b=some { o with slots:=sl }:=fun b m hm o ho=>by
  obtain ⟨_,m',⟨o',es,ep,g,hd,r⟩,_⟩:=H.tr b _ hm
  rw [ho] at g;cases g
  exact k2 b o ho fun vs q=>by rw [hd] at q;cases q
 refine ⟨⟨H.base,fun b o eb=>?_,fun b o eb=>?_⟩,⟨Y.fle,fun b o qb eb=>?_,fun b o eb=>?_,Y.prov,by rw [Y.rest]⟩⟩
 ·refine k1 b o (fun z=>by rw [z,hF] at eb;cases eb) (fun hm=>?_) (H.fz b o eb)
  obtain ⟨m',hm'⟩:=hfr b hm
  rw [(H.tr b _ hm').1] at eb;cases eb
 ·have hT:=H.tr b o eb
  refine ⟨hT.1,?_⟩
  have hbe:b≠e:=fun z=>by rw [z,he] at eb;cases eb
  by_cases hm:b∈l.filterMap (·.frame)
  ·obtain ⟨m,hm'⟩:=hfr b hm
   rw [eb] at hm'
   cases hm'
   obtain ⟨m',⟨o',es,ep,g,hd,r⟩,hv⟩:=hT.2
   obtain ⟨sl,g'⟩:=nd b m eb o' g
   exact ⟨m',⟨_,es,ep,g',hd,r⟩,hv⟩
  ·exact hT.2.at fun ob g=>k1 b ob hbe hm g
 ·have hq:Quiet (σ1 b):=(Y.prov b o eb qb).1▸qb
  refine k1 b o (fun z=>by rw [z,h0] at eb;cases eb) (fun hm=>?_) (Y.keep b o qb eb)
  obtain ⟨m',hm'⟩:=hfr b hm
  rw [hm'] at hq;exact not_quiet rfl hq
 ·obtain ⟨o',e'⟩:=Y.alive b o eb
  by_cases hm:b∈l.filterMap (·.frame)
  ·obtain ⟨m',hm'⟩:=hfr b hm
   obtain ⟨sl,g⟩:=nd b m' hm' o' e'
   exact ⟨_,g⟩
  ·exact ⟨o',k1 b o' (fun z=>by rw [z,h0] at eb;cases eb) hm e'⟩
theorem funFrames_of {h base:Heap}:∀ {l:List Env},(∀ e∈l,e.scope.kind≠.module∧∃ L o,e.frame=some L∧base.get? L=none∧h.get? L=some o∧∀ vs,o.data≠.fields vs)→h.FunFrames base l:=fun {l}=>by
 induction l with
 | nil=>exact fun _=>trivial
 | cons e r ih =>
  intro h
  exact ⟨(h e (.head _)).1,(h e (.head _)).2,ih fun x hx=>h x (.tail _ hx)⟩
theorem stop_exc:isSubtype (.type "StopIteration") (.type "BaseException")=pure true:=by rw [isSubtype_type];kernel_rfl
theorem stop_nt:isSubtype (.type ((Manifest.find? "StopIteration").elim "type" fun x=>x.metatype)) (.type "tuple")=pure false:=by rw [isSubtype_type];kernel_rfl
theorem T_tryStop {body:List Stmt} {b0:Stmt} {suite:List Stmt} {x:Str} {np hpos pos:Pos} {outer:List Env} {LL:Addr} {Q:SFlow→Sig→Prop} (X:Sig→Prop) (hf:env.frame=some LL)
  (hb:TX c RF A (execs body env) σ Q X) (fa:∀ σ',X σ'→FrA A σ' (env :: outer))
  (hs:∀ σ' e,X σ'→TF c (A.mark (some (.ref e))) (execs (b0 :: suite) env) σ' Q)
  (e:nsIn c.K mainGlobals x=some none) (hv:bootBuiltins x=some (.type "StopIteration")) (hn:x ≠ "__name__") (hg:autoParam (env.globals=mainGlobals) aR) (hbi:autoParam (env.builtins=builtinsNs) aR) (hk:autoParam (env.scope.kind=.function) aR) (hx:autoParam (env.kindOf x=some .globalImplicit) aR) (hd:autoParam ((x == ("__debug__":Str))=false) aR) :
  TF c A (exec (.Try body [.ExceptHandler (some (.Name x np)) none (b0 :: suite) hpos] [] [] pos) env) σ Q:=.mk fun F s E H=>by
 refine wpAny_Try_except (wpAny_mono (hb.run F s _ H fun ev s1 st=>?_) (fun f s1 p=>?_) fun _ _ e=>e)
 ·obtain ⟨F1,σ1,a,t0,rfl,H1,X1,hF,hσ,hdead,ha,hx1⟩:=st
  have fA:=fa σ1 hx1
  have hfr:∀ b∈(env :: outer).filterMap (·.frame),∃ m,σ1 b=some (.ns m):=fun b hb=>by
   obtain ⟨y,hy,e⟩:=List.mem_filterMap.mp hb
   obtain ⟨_,L',m',e2,h3⟩:=fA.2 y hy
   rw [e2] at e;cases e;exact ⟨m',h3⟩
  have fresh:(freeAll s1.heap (a :: (env :: outer).filterMap (·.frame))).get? a=none:=by rw [freeAll_get,if_pos (.head _)]
  have stays:(freeAll s1.heap (a :: (env :: outer).filterMap (·.frame))).StaysIn s1.heap:=fun b o eb=>by
   rw [freeAll_get] at eb
   split at eb
   ·cases eb
   ·exact eb
  have ff:s1.heap.FunFrames (freeAll s1.heap (a :: (env :: outer).filterMap (·.frame))) (env :: outer):=funFrames_of fun y hy=>by
   obtain ⟨h1,L',m',h2,h3⟩:=fA.2 y hy
   obtain ⟨_,m2,⟨o',es,ep,g,hd,r⟩,_⟩:=H1.tr _ _ h3
   refine ⟨h1,L',o',h2,?_,g,fun vs q=>by rw [hd] at q;cases q⟩
   rw [freeAll_get,if_pos (.tail _ (List.mem_filterMap.mpr ⟨y,hy,h2⟩))]
  have keep:∀ h':Heap,(freeAll s1.heap (a :: (env :: outer).filterMap (·.frame))).StaysIn h'→∀ b o,b≠a→b∉(env :: outer).filterMap (·.frame)→s1.heap.get? b=some o→h'.get? b=some o:=fun h' k b o h1 h2 h3=>by
   refine k b o ?_
   rw [freeAll_get,if_neg]
   ·exact h3
   ·intro hm
    rcases List.mem_cons.mp hm with z | z
    ·exact h1 z
    ·exact h2 z
  unfold noteFrame
  simp only [hf]
  refine wpAny_bind (wpAny_field ha rfl (x:=.none) rfl ?_)
  rw [if_neg (by decide)]
  refine wpAny_entryW fA.1 ff hf ha stays fresh rfl (by simp) (a0:=.ref t0) rfl fun h2 N=>?_
  obtain ⟨n1,n2,n3,n4⟩:=N
  refine wpAny_setFlight_noneW n1 n2 n3 fun h3 k1 k2 k3 k4=>?_
  have u3:∀ b o,s1.heap.get? b=some o→(∀ vs,o.data≠.fields vs)→∃ sl,h3.get? b=some { o with slots:=sl }:=fun b o e h=>by
   obtain ⟨sl,g⟩:=n4 b o e h
   exact ⟨sl,k4 b _ g h⟩
  obtain ⟨H3,X3⟩:=H1.framed X1 fA hσ hF hdead (keep h3 k1) u3
  obtain ⟨ob,hob,hcls⟩:=k3.at.there
  refine wpAny_handleBy_builtin (X := "StopIteration") (T := "StopIteration") (b:=true) stop_exc stop_nt isSubtype_stop
   (Name_function_global hk hx (loadGlobal_builtin (env:=env) (v:=.type "StopIteration") (by rw [hg];exact c.top.g.keeps H3.old) (mg_none_of c.kin c.top.g e) (by rw [hbi];exact c.top.b.keeps H3.old) ((c.top.builtins x hn).trans hv) ⟨rfl,⟨ob,hob,hcls⟩,?_⟩) hd)
  show wpAny _ _ (setFlight (.ref a) none) _ _ _
  refine wpAny_setFlight_noneW k1 k2 k3.at fun h4 j1 j2 j3 j4=>?_
  have u4:∀ b o,s1.heap.get? b=some o→(∀ vs,o.data≠.fields vs)→∃ sl,h4.get? b=some { o with slots:=sl }:=fun b o e h=>by
   obtain ⟨sl,g⟩:=u3 b o e h
   exact ⟨sl,j4 b _ g h⟩
  obtain ⟨H4,X4⟩:=H1.framed X1 fA hσ hF hdead (keep h4 j1) u4
  exact wpAny_mono ((hs σ1 a hx1).run F1 _ _ H4) (fun _ _ p=>p.lift X4) fun _ _ e=>e
 ·obtain ⟨F1,σ1,y,r,H1,X1,q⟩:=p
  cases y with
  | next=>cases r;exact wpAny_execs_nil ⟨_,_,.next,rfl,H1,X1,q⟩
  | brk=>cases r;exact ⟨_,_,.brk,rfl,H1,X1,q⟩
  | cont=>cases r;exact ⟨_,_,.cont,rfl,H1,X1,q⟩
  | ret x=>obtain ⟨v,rfl,r⟩:=r;exact ⟨_,_,.ret x,⟨v,rfl,r⟩,H1,X1,q⟩
theorem T_delSub {o i:Expr} {p pos:Pos} {Q:SFlow→Sig→Prop} (h:TV c A (eval o env) σ (fun x σ1=>TV c A (eval i env) σ1 (fun y σ2=>T2 c RU A delItem x y σ2 (fun _ σ3=>Q .next σ3)))):TF c A (exec (.Delete [.Subscript o i p] pos) env) σ Q:=.mk fun F s E H =>
 wpAny_Delete (wpAny_deleteEach_cons (wpAny_delete_Subscript (h.wp H fun v s1 F1 σ1 x r1 H1 X1 q1=>q1.wp H1 fun u s2 F2 σ2 y r2 H2 X2 q2=>wpAny_mono (q2.run F2 s2 E v u H2 (r1.mono X2.fle) r2) (fun _ s3 ⟨F3,σ3,_,_,H3,X3,q3⟩=>wpAny_deleteEach_nil ⟨F3,σ3,.next,rfl,H3,(X1.trans X2).trans X3,q3⟩) fun _ _ e=>e)))
theorem t_attrA {o:Expr} {name:Str} {pos:Pos} {Q:SV→Sig→Prop} (h:TV c A (eval o env) σ (fun x σ1=>T1 c VRel A (fun v=>getAttr v name true) x σ1 Q)) (hbase:autoParam (attributeBase o name env (eval o env)=eval o env) aR) :
  TV c A (eval (.Attribute o name pos) env) σ Q:=.mk fun F s E H=>by
 rw [arm_eval_Attribute,hbase]
 exact wpAny_bind (h.wp H fun ov s1 F1 σ1 x r1 H1 X1 q1=>wpAny_bind (wpAny_standAt (wpAny_bind (wpAny_holding (wpAny_mono (q1.run F1 s1 E ov H1 r1) (fun v s2 p2=>wpAny_bind (wpAny_letTemporaryGo (wpAny_pure (p2.lift X1)))) fun _ _ e=>e)))))
theorem C_iter {l:Addr} {xs:List SV} {Q:SV→Sig→Prop} (hl:Rd σ l (.list xs)) (h:∀ it,σ it=none→Q (.ref it) (upd σ it (some (.obj (iterObj l))))):CallT c A (.builtin "iter") [.ref l] σ Q:=.mk fun F s E vs H r=>by
 cases r with
 | cons r1 r =>
 cases r
 rename_i v
 have:v=.ref l:=r1
 subst this
 obtain ⟨_,vs,n,gl,pp⟩:=hl.holds H
 refine call_function_entry (by decide +kernel) (by decide +kernel) kdk_entry_iter (kdk_args_iter _) ?_
 unfold Builtin.«iter»
 refine wpAny_bind (m:=someArgs "iter" 1 2 _) (wpAny_of_eq (a:=[Value.ref l]) (by first | rfl | kernel_rfl) ?_)
 show wpAny _ _ (pyIter (.ref l) >>= _) _ _ _
 refine wpAny_bind (wpAny_pyIter_list (isL gl) (wpAny_pure ⟨_,rfl,?_⟩))
 have hf:=get_fresh s.heap (Nat.le_refl _)
 have S:=H.new (o:=.obj (iterObj l)) (h':=s.heap.push (iterObj l)) (tk:=s.toks) hf (fun b o e=>Heap.get?_push_of_some _ e) (Heap.get?_push_size _ rfl)
 exact ⟨F,_,.ref s.heap.objs.size,rfl,S.1,S.2,h _ (H.deadσ hf)⟩
theorem A_next {it l:Addr} {Q:SV→Sig→Prop} (hi:σ it=some (.obj (iterObj l))) (h:Q (.o (nextObj it)) (upd σ it (some (.liter l 0)))):T1 c VRel A (fun v=>getAttr v (Str.ofString "__next__") true) (.ref it) σ Q:=.mk fun F s E v H r=>by
 have:v=.ref it:=r
 subst this
 have g:s.heap.get? it=some (iterObj l):=(H.tr _ _ hi).2
 refine getAttr_next g ?_
 have S1:=H.set (o:=.liter l 0) (h':=s.heap) (tk:=s.toks) hi (fun _ _ _ e=>e) ⟨_,g,rfl,rfl⟩
 obtain ⟨l2,S2,X2⟩:=S1.1.newF (h':=s.heap.push (nextObj it)) (tk:=s.toks+1) (get_fresh _ (Nat.le_refl _)) (fun b o e=>Heap.get?_push_of_some _ e) (Heap.get?_push_size _ rfl)
 exact ⟨_,_,.o (nextObj it),⟨_,rfl,updF_self ..⟩,S2,S1.2.trans X2,h⟩
end
end Mine
end
section
namespace Mine
section
variable {c:Cfg} {A:Around} {F:FM} {σ:Sig} {s:Shared} {env:Env} {α β:Type} {L:Addr} {cs:List (Str×Addr)} {m:Str→Option SV} {X:Sig→Prop} {C:Addr}
inductive Made (c:Cfg) (C:Addr) (F:FM) (σ:Sig) (s:Shared) (X:Sig→Prop) (e:Value) (s':Shared):Prop
 | mk (F':FM) (σ':Sig) (a t0:Addr) (h1:e=.ref a) (h2:St c F' σ' s') (h3:Ext F σ s F' σ' s') (h4:F' a=none) (h5:σ' a=none) (h6:s.heap.get? a=none) (h7:s'.heap.get? a=some { cls:=.ref C,data:=.fields #[.ref t0,.none,.none,.none,.bool false,.none] }) (h8:X σ'):Made c C F σ s X e s'
theorem Made.lift {F1:FM} {σ1:Sig} {s1 s':Shared} {e:Value} (x:Ext F σ s F1 σ1 s1) (h:Made c C F1 σ1 s1 X e s'):Made c C F σ s X e s':=by
 obtain ⟨F',σ',a,t0,h1,h2,h3,h4,h5,h6,h7,h8⟩:=h
 refine ⟨F',σ',a,t0,h1,h2,x.trans h3,h4,h5,?_,h7,h8⟩
 cases e:s.heap.get? a with
 | none=>rfl
 | some o=>obtain ⟨o',e'⟩:=x.alive a o e;rw [h6] at e';cases e'
inductive Flown (c:Cfg) (C:Addr) (F:FM) (σ:Sig) (s:Shared) (X:Sig→Prop) (e:Value) (s':Shared):Prop
 | mk (F':FM) (σ':Sig) (a:Addr) (a0:Value) (h1:e=.ref a) (h2:St c F' σ' s') (h3:Ext F σ s F' σ' s') (h4:F' a=none) (h5:σ' a=none) (h6:s.heap.get? a=none) (h7:X σ')
  (oe:Obj) (vs:Array Value) (T:Addr) (oT:Obj) (ts:Array Value) (g1:s'.heap.get? a=some oe) (g2:oe.cls=.ref C∧vs[0]?=some a0) (g3:oe.data=.fields vs) (g4:vs[1]?=some (.ref T)) (g5:T≠a) (g6:s'.heap.get? T=some oT) (g7:oT.data=.fields ts) (g8:ts[3]?=some .none) (g9:F' T=none) (g10:σ' T=none) (g11:s.heap.get? T=none):Flown c C F σ s X e s'
theorem Flown.lift {F1:FM} {σ1:Sig} {s1 s':Shared} {e:Value} (x:Ext F σ s F1 σ1 s1) (h:Flown c C F1 σ1 s1 X e s'):Flown c C F σ s X e s':=by
 obtain ⟨F',σ',a,a0,h1,h2,h3,h4,h5,h6,h7,oe,vs,T,oT,ts,g1,g2,g3,g4,g5,g6,g7,g8,g9,g10,g11⟩:=h
 have dead:∀ a,s1.heap.get? a=none→s.heap.get? a=none:=fun a ha=>by
  cases e:s.heap.get? a with
  | none=>rfl
  | some o=>obtain ⟨o',e'⟩:=x.alive a o e;rw [ha] at e';cases e'
 exact ⟨F',σ',a,a0,h1,h2,x.trans h3,h4,h5,dead a h6,h7,oe,vs,T,oT,ts,g1,g2,g3,g4,g5,g6,g7,g8,g9,g10,dead T g11⟩
structure TR {α:Type} (c:Cfg) (C:Addr) (A:Around) (t:Sem α) (σ:Sig) (X:Sig→Prop):Prop where
 run:∀ F s (P:α→Shared→Prop) E,St c F σ s→(∀ e s',Made c C F σ s X e s'→E e s')→wpAny c.M A t P E s
theorem R_cons1 {st:Stmt} {rest:List Stmt} (h:TF c A (exec st env) σ (fun fl σ1=>match fl with | .next=>TR c C A (execs rest env) σ1 X | _=>False)):TR c C A (execs (st :: rest) env) σ X:=.mk fun F s P E H hE =>
 wpAny_execs_cons (h.wp H fun f s1 F1 σ1 x r H1 X1 q=>by
  cases x with
  | next=>cases r;exact q.run F1 s1 _ E H1 fun e s' md=>hE e s' (md.lift X1)
  | brk=>exact q.elim
  | cont=>exact q.elim
  | ret v=>exact q.elim)
theorem R_cons2 {st:Stmt} {rest:List Stmt} (h:TR c C A (exec st env) σ X):TR c C A (execs (st :: rest) env) σ X:=.mk fun F s P E H hE=>wpAny_execs_cons (h.run F s _ E H hE)
theorem R_if {t:Expr} {b o:List Stmt} {pos:Pos} (h:TB c A (PySem.isTrue t env (eval t env)) σ (fun z σ1=>(z=true→TR c C A (execs b env) σ1 X)∧(z=false→TR c C A (execs o env) σ1 X))):TR c C A (exec (.If t b o pos) env) σ X:=.mk fun F s P E H hE =>
 wpAny_If (h.wp H fun z s1 F1 σ1 x r1 H1 X1 q1=>by
  cases r1
  cases z with
  | true=>exact (q1.1 rfl).run F1 s1 _ E H1 fun e s' md=>hE e s' (md.lift X1)
  | false=>exact (q1.2 rfl).run F1 s1 _ E H1 fun e s' md=>hE e s' (md.lift X1))
theorem R_raise {x:Str} {np cpos pos:Pos} {e₀:Expr} {rest:List Expr} {bm:List Value} {B newId initId:String} (FB:ExcBaseFacts B newId initId bm) (hh:A.handled=none) (ex:nsIn c.K mainGlobals x=some (some (.ref C))) (q:excIn c.K C bm newId=true)
  (h:TVs c A (spliced (backTo cpos (starEach (e₀ :: rest) env))) σ (fun xs σ1=>xs.length≤1000∧X σ1))
  (he:autoParam (starEach (e₀ :: rest) env=(false,eval e₀ env) :: starEach rest env) aR) (hplain:autoParam ((backTo cpos (starEach rest env)).any (·.1)=false) aR)
  (hg:autoParam (env.globals=mainGlobals) aR) (hk:autoParam (env.scope.kind=.function) aR) (hx:autoParam (env.kindOf x=some .globalImplicit) aR) (hd:autoParam ((x == ("__debug__":Str))=false) aR) :
  TR c C A (exec (.Raise (some (.Call (.Name x np) (e₀ :: rest) [] cpos)) none pos) env) σ X:=.mk fun F s P E H hE=>by
 have T0:=c.top
 have O:=own_of_in c.kin c.top ex q
 obtain ⟨tl,N,nm,q,bs,hdct,sn,sub,ab,col,dd,k0,k1,k2,k3,k5,mN,hC,hN,hni,TL⟩:=O.obj
 refine wpAny_Raise_call_subT (C:=C) (nm:=nm) (q:=q) (N:=N) (bs:=bs) (bm:=tl) (hdct:=hdct) (sn:=sn) (sub:=sub) (ab:=ab) (col:=col) (dd:=dd) (k0:=k0) (k1:=k1) (k2:=k2) (k3:=k3) (k5:=k5)
  FB (mN:=mN) (TL.hasType FB.hasBase) hh (by rw [he];show (false || (backTo cpos (starEach rest env)).any (·.1))=false;rw [hplain];rfl) hni
  (Name_function_global hk hx (loadGlobal_global (env:=env) (by rw [hg];exact c.top.g.keeps H.old) (mg_of c.kin c.top.g ex) ⟨rfl,?_⟩) hd)
 rw [he] at h ⊢
 refine Calls.evalArgs_plain (h.wp H fun vs s1 F1 σ1 xs r1 H1 X1 q1=>⟨rfl,?_,H1.old _ _ hC,hN.keeps H1.old,TL.keeps H1.old,fun h' e hm=>hE _ _ ?_⟩)
 ·rw [←r1.length,sizeLine_eq];have:=q1.1;omega
 ·obtain ⟨t,he,_,_⟩:=hm.there
  have S:=H1.same (h':=h') (tk:=s1.toks) hm.keeps
  exact Made.lift X1 ⟨F1,σ1,e,t,rfl,S.1,S.2,H1.deadF hm.new,H1.deadσ hm.new,hm.new,he,q1.2⟩
structure CodeR (c:Cfg) (C:Addr) (A:Around) (f:Value) (xs:List SV) (σ:Sig) (X:Sig→Prop):Prop where
 run:∀ F s (E:Value→Shared→Prop) vs,St c F σ s→Paired (VRel F) xs vs→(∀ e s',Flown c C F σ s X e s'→E e s')→codeAny c.M A (.call f ⟨vs,[]⟩) (fun r s'=>match r with | .ok _=>False | .error e=>E e s') s
theorem TR.weaken {α:Type} {t:Sem α} {m':Str→Option SV} (h:∀ x v,m' x=some v→m x=some v) (T:TR c C A t (fr σ L cs m') X):TR c C A t (fr σ L cs m) X :=
 .mk fun F s P E H hE=>let ⟨H',X'⟩:=fr_weaken h H;T.run F s P E H' fun e s' md=>hE e s' (md.lift X')
theorem r_fit {α:Type} {t:Sem α} (l:List (Str×SV)) (h:Fits l m) (T:TR c C A t (fr σ L cs (mkm l)) X):TR c C A t (fr σ L cs m) X:=T.weaken (fits_le h)
theorem St.framed2 {F0 F1:FM} {σ0 σ1:Sig} {s0 s1:Shared} {h':Heap} {l:List Env} {e T:Addr} (H:St c F1 σ1 s1) (Y:Ext F0 σ0 s0 F1 σ1 s1) (fa:FrA A σ1 l) (he:σ1 e=none) (hF:F1 e=none) (h0:s0.heap.get? e=none)
  (hT:σ1 T=none) (hFT:F1 T=none) (h0T:s0.heap.get? T=none)
  (k1:∀ b o,b≠e→b≠T→b∉l.filterMap (·.frame)→s1.heap.get? b=some o→h'.get? b=some o) (k2:∀ b o,s1.heap.get? b=some o→(∀ vs,o.data≠.fields vs)→∃ sl,h'.get? b=some { o with slots:=sl }) :
  St c F1 σ1 { s1 with heap:=h' }∧Ext F0 σ0 s0 F1 σ1 { s1 with heap:=h' }:=by
 have hfr:∀ b∈l.filterMap (·.frame),∃ m,σ1 b=some (.ns m):=fun b hb=>by
  obtain ⟨x,hx,e⟩:=List.mem_filterMap.mp hb
  obtain ⟨_,L',m',e2,h3⟩:=fa.2 x hx
  rw [e2] at e;cases e;exact ⟨m',h3⟩
 have nd:∀ b,∀ m,σ1 b=some (.ns m)→∀ o,s1.heap.get? b=some o→∃ sl,h'.get? b=some { o with slots:=sl }:=fun b m hm o ho=>by
  obtain ⟨_,m',⟨o',es,ep,g,hd,r⟩,_⟩:=H.tr b _ hm
  rw [ho] at g;cases g
  exact k2 b o ho fun vs q=>by rw [hd] at q;cases q
 refine ⟨⟨H.base,fun b o eb=>?_,fun b o eb=>?_⟩,⟨Y.fle,fun b o qb eb=>?_,fun b o eb=>?_,Y.prov,by rw [Y.rest]⟩⟩
 ·refine k1 b o (fun z=>by rw [z,hF] at eb;cases eb) (fun z=>by rw [z,hFT] at eb;cases eb) (fun hm=>?_) (H.fz b o eb)
  obtain ⟨m',hm'⟩:=hfr b hm
  rw [(H.tr b _ hm').1] at eb;cases eb
 ·have hH:=H.tr b o eb
  refine ⟨hH.1,?_⟩
  have hbe:b≠e:=fun z=>by rw [z,he] at eb;cases eb
  have hbT:b≠T:=fun z=>by rw [z,hT] at eb;cases eb
  by_cases hm:b∈l.filterMap (·.frame)
  ·obtain ⟨m,hm'⟩:=hfr b hm
   rw [eb] at hm'
   cases hm'
   obtain ⟨m',⟨o',es,ep,g,hd,r⟩,hv⟩:=hH.2
   obtain ⟨sl,g'⟩:=nd b m eb o' g
   exact ⟨m',⟨_,es,ep,g',hd,r⟩,hv⟩
  ·exact hH.2.at fun ob g=>k1 b ob hbe hbT hm g
 ·have hq:Quiet (σ1 b):=(Y.prov b o eb qb).1▸qb
  refine k1 b o (fun z=>by rw [z,h0] at eb;cases eb) (fun z=>by rw [z,h0T] at eb;cases eb) (fun hm=>?_) (Y.keep b o qb eb)
  obtain ⟨m',hm'⟩:=hfr b hm
  rw [hm'] at hq;exact not_quiet rfl hq
 ·obtain ⟨o',e'⟩:=Y.alive b o eb
  by_cases hm:b∈l.filterMap (·.frame)
  ·obtain ⟨m',hm'⟩:=hfr b hm
   obtain ⟨sl,g⟩:=nd b m' hm' o' e'
   exact ⟨_,g⟩
  ·exact ⟨o',k1 b o' (fun z=>by rw [z,h0] at eb;cases eb) (fun z=>by rw [z,h0T] at eb;cases eb) hm e'⟩
theorem base_of {F1:FM} {σ1:Sig} {s1:Shared} {l:List Env} {as:List Addr} (H1:St c F1 σ1 s1) (fA:FrA A σ1 l) :
  (∀ b∈as,(freeAll s1.heap (as++l.filterMap (·.frame))).get? b=none)∧(freeAll s1.heap (as++l.filterMap (·.frame))).StaysIn s1.heap∧s1.heap.FunFrames (freeAll s1.heap (as++l.filterMap (·.frame))) l ∧
   ∀ h':Heap,(freeAll s1.heap (as++l.filterMap (·.frame))).StaysIn h'→∀ b o,b∉as→b∉l.filterMap (·.frame)→s1.heap.get? b=some o→h'.get? b=some o:=by
 refine ⟨fun b hb=>by rw [freeAll_get,if_pos (List.mem_append_left _ hb)],fun b o eb=>?_,funFrames_of fun y hy=>?_,fun h' k b o h1 h2 h3=>?_⟩
 ·rw [freeAll_get] at eb
  split at eb
  ·cases eb
  ·exact eb
 ·obtain ⟨h1,L',m',h2,h3⟩:=fA.2 y hy
  obtain ⟨_,m2,⟨o',es,ep,g,hd,r⟩,_⟩:=H1.tr _ _ h3
  refine ⟨h1,L',o',h2,?_,g,fun vs q=>by rw [hd] at q;cases q⟩
  rw [freeAll_get,if_pos (List.mem_append_right _ (List.mem_filterMap.mpr ⟨y,hy,h2⟩))]
 ·refine k b o ?_
  rw [freeAll_get,if_neg]
  ·exact h3
  ·intro hm
   rcases List.mem_append.mp hm with z | z
   ·exact h1 z
   ·exact h2 z
theorem frame_ns {F1:FM} {σ1:Sig} {s1:Shared} {l:List Env} (H1:St c F1 σ1 s1) (fA:FrA A σ1 l) {b:Addr} (hb:b∈l.filterMap (·.frame)):∃ o es ep,s1.heap.get? b=some o∧o.data=.dict es ep:=by
 obtain ⟨y,hy,e⟩:=List.mem_filterMap.mp hb
 obtain ⟨_,L',m',e2,h3⟩:=fA.2 y hy
 rw [e2] at e;cases e
 obtain ⟨_,m2,⟨o',es,ep,g,hd,r⟩,_⟩:=H1.tr _ _ h3
 exact ⟨o',es,ep,g,hd⟩
theorem D_fnR {f:Addr} {body:List Stmt} {n:Nat} {xs:List SV} {l:List Env} {name qual:Str} {params:Arguments} {scope:Scope} {dV kV doc pm cdv ct oc:Value} {an od:Option Addr} {osl:Array (Option Value)} (bs:List (Str×SV)) (cs:Addr→List (Str×Addr))
  (ho:c.K.lookup f=some ⟨oc,od,.func (fnOf name qual params body scope dV kV doc pm an cdv ct),osl⟩) (hcd:codeIn c.K cdv qual=true) (R:Rm (n+1) A)
  (hp:∀ F vs,Paired (VRel F) xs vs→∃ binds,(∀ S,peek c.K S (bindArgs (fnOf name qual params body scope dV kV doc pm an cdv ct) ⟨vs,[]⟩)=some binds)∧Paired (KV F) bs binds)
  (h:∀ L,FrOk σ L (cs L)→TR c C (A.deeper (envOfC qual scope L f cdv)) (execs body (envOfC qual scope L f cdv)) (fr σ L (cs L) (bindAll bs fun _=>none)) (fun σ'=>∃ σ1 m,σ'=fr σ1 L (cs L) m∧FrOk σ1 L (cs L)∧X σ1))
  (fX:∀ σ1,X σ1→FrA A σ1 l)
  (hcs:∀ L,csOf scope L=cs L)
  (hb:∀ L,∀ y∈bs,scope.names.lookup y.1=some .local∨(scope.names.lookup y.1=some .cell∧((csOf scope L).lookup y.1).isSome=true))
  (hnd:((cellsFrom 0 scope.names []).map (·.1)).Nodup) (hnames:(scope.names.map (·.1)).Nodup)
  (hco:autoParam (scope.isCoroutine=false) aR) (hgen:autoParam (scope.isGenerator=false) aR) (hk:autoParam (scope.kind=.function) aR):CodeR c C A (.ref f) xs σ X:=.mk fun F s E vs H r hE=>by
 obtain ⟨binds,e,p⟩:=hp F vs r
 have I:FnIs c f (fnOf name qual params body scope dV kV doc pm an cdv ct) body:=⟨⟨_,_,_,ho⟩,rfl,rfl,hcd,hco,hgen,hk,hnames⟩
 have hnd':∀ L,((csOf scope L).map (·.1)).Nodup:=fun L=>cellsFrom_names scope.names 0 (L+1) [] [] rfl▸hnd
 have kv:∀ y∈binds,∃ z∈bs,z.1=y.1:=fun y hy=>by
  obtain ⟨i,hi,e⟩:=List.mem_iff_getElem.mp hy
  obtain ⟨z,hz,q⟩:=paired_get' p (i:=i) (y:=y) (by rw [←e];simp [hi])
  exact ⟨z,List.mem_of_getElem? hz,q.1⟩
 refine codeAny_call_function R.lt (H.kin _ _ ho) rfl hco hgen rfl (codeRec_of H.kin hcd) (kp_binds H.kin e _ _ _ _ ?_)
 refine wpAny_newFunctionEnv_cells hk (fun y hy=>by obtain ⟨z,hz,e⟩:=kv y hy;rw [←e];exact hb _ z hz) fun env he s₁ x=>?_
 subst he
 refine ⟨((c.top.nolimit).keeps H.old).keeps x.toInCall.keep,codeAny_func ?_⟩
 obtain ⟨ok,S,X0⟩:=inCall_st I H p (hb _) (hnd' _) x
 rw [hcs] at ok S X0
 refine (h _ ok).run F _ _ _ S fun ev s2 md=>?_
 obtain ⟨F1,σ1',a,t0,rfl,H1,X1,hF,hσ,hdead,ha,σ1,m1,rfl,ok1,hx⟩:=md
 have fA:FrA (A.deeper (envOfC qual scope s.heap.objs.size f cdv)) (fr σ1 s.heap.objs.size (cs s.heap.objs.size) m1) (envOfC qual scope s.heap.objs.size f cdv :: l):=(fX σ1 hx).deeper (by show scope.kind≠_;rw [hk];intro z;cases z) rfl ok1
 obtain ⟨b1,b2,b3,b4⟩:=base_of (as:=[a]) H1 fA
 refine wpAny_leaving_firstW fA.1 b3 rfl ha b2 (b1 a (.head _)) rfl rfl (a0:=.ref t0) rfl fun h' hl=>?_
 obtain ⟨k1,k2,k3,k4⟩:=hl
 have X01:=X0.trans X1
 have hdead0:s.heap.get? a=none:=by
  cases e:s.heap.get? a with
  | none=>rfl
  | some o=>obtain ⟨o',e'⟩:=X0.alive a o e;rw [hdead] at e';cases e'
 obtain ⟨H',X'⟩:=H1.framed X01 fA hσ hF hdead0 (fun b o h1 h2 h3=>b4 h' k1 b o (by simpa using h1) h2 h3) k4
 obtain ⟨H2,X2⟩:=fr_out ok1 H'
 obtain ⟨oe,vs',T,oT,ts,g1,g2,g3,g4,g5,g6,g7,g8,g9⟩:=k3
 have hTd:s2.heap.get? T=none:=by
  rw [freeAll_get] at g5
  split at g5
  ·rename_i hm
   rcases List.mem_append.mp hm with z | z
   ·exact absurd (List.mem_singleton.mp z) g6
   ·obtain ⟨o,es,ep,q1,q2⟩:=frame_ns H1 fA z
    obtain ⟨sl,q3⟩:=k4 T o q1 fun vs q=>by rw [q2] at q;cases q
    rw [q3] at g7
    cases g7
    have g8:o.data=.fields ts:=g8
    rw [q2] at g8;cases g8
  ·exact g5
 refine hE _ _ ⟨F1,σ1,a,.ref t0,rfl,H2,X'.trans X2,hF,(fr_none hσ).2.2,hdead0,hx,oe,vs',T,oT,ts,g1,g2,g3,g4,g6,g7,g8,g9,H1.deadF hTd,(fr_none (H1.deadσ hTd)).2.2,?_⟩
 cases e:s.heap.get? T with
 | none=>rfl
 | some o=>obtain ⟨o',e'⟩:=X01.alive T o e;rw [hTd] at e';cases e'
structure TF' {α:Type} (c:Cfg) (C:Addr) (A:Around) (t:Sem α) (σ:Sig) (X:Sig→Prop):Prop where
 run:∀ F s (P:α→Shared→Prop) E,St c F σ s→(∀ e s',Flown c C F σ s X e s'→E e s')→wpAny c.M A t P E s
theorem Y_cons {st:Stmt} {rest:List Stmt} (h:TF' c C A (exec st env) σ X):TF' c C A (execs (st :: rest) env) σ X:=.mk fun F s P E H hE=>wpAny_execs_cons (h.run F s _ E H hE)
theorem Y_expr {e:Expr} {pos:Pos} (h:TF' c C A (eval e env) σ X) (hi:autoParam (interactive env=false) aR) (hs:autoParam (swapsWith e none pos.line env=pure false) aR):TF' c C A (exec (.Expr e pos) env) σ X:=.mk fun F s P E H hE =>
 wpAny_Expr_any (h.run F s _ E H hE) hi hs
theorem Y_inst {o:Expr} {name:Str} {apos pos:Pos} {CC f:Addr}
  (h:TV c A (eval o env) σ (fun x σ1=>∃ a,x=.ref a∧IsInst c σ1 a CC name∧CodeR c C A (.ref f) [.ref a] σ1 X))
  (hg:plainGet c.K CC name=true) (hf:findIn c.K (.ref CC) name=some (some (.ref f))) (ht:typeIn c.K (.ref f)=some (.type "function")) (hkf:keepIn c.K (.ref f)=true)
  (hbase:autoParam (attributeBase o name env (eval o env)=eval o env) aR) (hline:autoParam ((apos.endLine == pos.line)=true) aR):TF' c C A (eval (.Call (.Attribute o name apos) [] [] pos) env) σ X:=.mk fun F s P E H hE=>by
 rw [arm_eval_Call,hbase]
 refine wpAny_bind (h.wp H fun ov s1 F1 σ1 x r1 H1 X1 q1=>?_)
 obtain ⟨a,rfl,hi,q⟩:=q1
 have:ov=.ref a:=r1
 subst this
 obtain ⟨ox,od,I,hsh⟩:=hi F1 s1 H1
 refine wpAny_bind (wpAny_standAt ?_)
 have hpos:methodCallPos true o env apos pos=pure pos:=by unfold methodCallPos;simp [hline]
 unfold methodCall
 rw [show methodCallForm (([]:List Expr).length+([]:List Keyword).length) (backTo pos (starEach [] env)) (backToKw pos (keywordEach [] env))=true from rfl]
 refine wpAny_bind (wpAny_holding (method_fn H1.kin I (plainGet_of hg).1 (plainGet_of hg).2 hf ht hsh ?_))
 refine wpAny_bind (wpAny_of_eq hpos ?_)
 refine callWith_any (P:=c.K.In) (first:=[.ref a]) (kept_K hkf) (evalArgs_nil3 ⟨H1.kin,?_⟩)
 refine wpAny_call (codeAny_mono (q.run F1 s1 E [.ref a] H1 (.cons rfl .nil) fun e s' fl=>hE e s' (fl.lift X1)) fun r s' z=>?_)
 cases r with
 | error e=>exact z
 | ok f=>exact z.elim
theorem T_tryOwn {body:List Stmt} {b0:Stmt} {suite:List Stmt} {x:Str} {np hpos pos:Pos} {outer:List Env} {LL:Addr} {Q:SFlow→Sig→Prop} (X:Sig→Prop) (hf:env.frame=some LL)
  (hb:TF' c C A (execs body env) σ X) (fa:∀ σ',X σ'→FrA A σ' (env :: outer))
  (hs:∀ σ' e,X σ'→TF c (A.mark (some (.ref e))) (execs (b0 :: suite) env) σ' Q)
  (ex:nsIn c.K mainGlobals x=some (some (.ref C))) (hm:exmOne c.K (.ref C) (.ref C)=some true) (hg:autoParam (env.globals=mainGlobals) aR) (hk:autoParam (env.scope.kind=.function) aR) (hx:autoParam (env.kindOf x=some .globalImplicit) aR) (hd:autoParam ((x == ("__debug__":Str))=false) aR) :
  TF c A (exec (.Try body [.ExceptHandler (some (.Name x np)) none (b0 :: suite) hpos] [] [] pos) env) σ Q:=.mk fun F s E H=>by
 refine wpAny_Try_except (hb.run F s _ _ H fun ev s1 fl=>?_)
 obtain ⟨F1,σ1,a,a0,rfl,H1,X1,hF,hσ,hdead,hx1,oe,vs,T,oT,ts,g1,⟨g2,g2'⟩,g3,g4,g6,g7,g8,g9,g10,g11,g12⟩:=fl
 have fA:=fa σ1 hx1
 obtain ⟨b1,b2,b3,b4⟩:=base_of (as:=[a,T]) H1 fA
 have keep2:∀ h':Heap,(freeAll s1.heap ([a,T]++(env :: outer).filterMap (·.frame))).StaysIn h'→∀ b o,b≠a→b≠T→b∉(env :: outer).filterMap (·.frame)→s1.heap.get? b=some o→h'.get? b=some o:=fun h' k b o h1 h2 h3 h4=>b4 h' k b o (by simp [h1,h2]) h3 h4
 refine wpAny_noteFrame_onW fA.1 b3 hf ⟨oe,vs,T,oT,ts,g1,⟨g2,g2'⟩,g3,g4,b1 T (by simp),g6,g7,g8,g9⟩ b2 (b1 a (by simp)) fun h2 N=>?_
 obtain ⟨n1,n2,n3,n4⟩:=N
 refine wpAny_setFlight_noneW n1 n2 n3 fun h3 k1 k2 k3 k4=>?_
 have u3:∀ b o,s1.heap.get? b=some o→(∀ vs,o.data≠.fields vs)→∃ sl,h3.get? b=some { o with slots:=sl }:=fun b o e h=>by
  obtain ⟨sl,g⟩:=n4 b o e h
  exact ⟨sl,k4 b _ g h⟩
 obtain ⟨H3,X3⟩:=H1.framed2 X1 fA hσ hF hdead g11 g10 g12 (keep2 h3 k1) u3
 obtain ⟨ob,hob,hcls⟩:=k3.at.there
 refine wpAny_handleBy_cons (codeAny_handlers_test (Name_function_global hk hx (loadGlobal_global (env:=env) (by rw [hg];exact c.top.g.keeps H3.old) (mg_of c.kin c.top.g ex) ?_) hd)) (by intro q;cases q)
 refine (exm_one H3.kin (by rw [←hcls];exact (Looks.ld hob).andThen .now) hm).here ?_
 refine codeAny_handlers_suite ?_
 refine wpAny_setFlight_noneW k1 k2 k3.at fun h4 j1 j2 j3 j4=>?_
 have u4:∀ b o,s1.heap.get? b=some o→(∀ vs,o.data≠.fields vs)→∃ sl,h4.get? b=some { o with slots:=sl }:=fun b o e h=>by
  obtain ⟨sl,g⟩:=u3 b o e h
  exact ⟨sl,j4 b _ g h⟩
 obtain ⟨H4,X4⟩:=H1.framed2 X1 fA hσ hF hdead g11 g10 g12 (keep2 h4 j1) u4
 exact wpAny_mono ((hs σ1 a hx1).run F1 _ _ H4) (fun _ _ p=>p.lift X4) fun _ _ e=>e
theorem T_tryNo {body:List Stmt} {h0:ExceptHandler} {hs:List ExceptHandler} {pos:Pos} {Q:SFlow→Sig→Prop} (h:TF c A (execs body env) σ Q):TF c A (exec (.Try body (h0 :: hs) [] [] pos) env) σ Q:=.mk fun F s E H =>
 wpAny_Try_except (wpAny_mono (h.run F s _ H) (fun f s1 p=>by
  obtain ⟨F1,σ1,y,r,H1,X1,q⟩:=p
  cases y with
  | next=>cases r;exact wpAny_execs_nil ⟨_,_,.next,rfl,H1,X1,q⟩
  | brk=>cases r;exact ⟨_,_,.brk,rfl,H1,X1,q⟩
  | cont=>cases r;exact ⟨_,_,.cont,rfl,H1,X1,q⟩
  | ret x=>obtain ⟨v,rfl,r⟩:=r;exact ⟨_,_,.ret x,⟨v,rfl,r⟩,H1,X1,q⟩) fun _ _ e=>e)
end
end Mine
end
section
namespace Mine
noncomputable def tbX (led:Bool) (pl:List Nat):SetTable:={ mask:=7,place:=pl.toArray,dummies:=#[],finger:=0,led:=led,moves:=0,plain:=true }
noncomputable def fsX (led:Bool) (pl:List Nat) (h:Int):Bool:=match (tbX led pl).freeSlot h with
 | some (slot,wd)=>!wd && decide (slot < 8) && pl.all (· != slot)
 | none=>false
noncomputable def fsG (pls:List (List Nat)):Bool:=pls.all fun pl=>(List.range 48).all fun h=>fsX false pl (7+(h:Int)) && fsX true pl (7+(h:Int))
theorem fs_0:fsG [[],[0],[1],[2],[3],[4]]=true:=by decide +kernel
theorem fs_1:fsG [[5],[6],[7],[0,1],[0,2],[0,3]]=true:=by decide +kernel
theorem fs_2:fsG [[0,4],[0,5],[0,6],[0,7],[1,2],[1,3]]=true:=by decide +kernel
theorem fs_3:fsG [[1,4],[1,5],[1,6],[1,7],[2,3],[2,4]]=true:=by decide +kernel
theorem fs_4:fsG [[2,5],[2,6],[2,7],[3,4],[3,5],[3,6]]=true:=by decide +kernel
theorem fs_5:fsG [[3,7],[4,5],[4,6],[4,7],[5,6],[5,7]]=true:=by decide +kernel
theorem fs_6:fsG [[6,7]]=true:=by decide +kernel
noncomputable def okX:List Nat→Bool
 | []=>true
 | [a]=>decide (a < 8)
 | a :: b :: r=>decide (a < b) && okX (b :: r)
theorem okX_cases {pl:List Nat} (h:okX pl=true) (hl:pl.length≤3):pl=[]∨(∃ a,a < 8∧pl=[a])∨(∃ a b,a < b∧b < 8∧pl=[a,b])∨∃ a b c,a < b∧b < c∧c < 8∧pl=[a,b,c]:=by
 match pl,h with
 | [],_=>exact .inl rfl
 | [a],h=>exact .inr (.inl ⟨a,by simpa [okX] using h,rfl⟩)
 | [a,b],h=>simp [okX] at h;exact .inr (.inr (.inl ⟨a,b,h.1,h.2,rfl⟩))
 | [a,b,c],h=>simp [okX] at h;exact .inr (.inr (.inr ⟨a,b,c,h.1,h.2.1,h.2.2,rfl⟩))
 | _ :: _ :: _ :: _ :: _,_=>simp at hl
noncomputable def bel1 (pl:List Nat):Bool:=SetTable.below pl.toArray 0 == 0 && (List.range pl.length).all fun i=>SetTable.below pl.toArray (pl.getD i 0+1) == i+1
noncomputable def put1 (pl:List Nat) (slot:Nat):Bool:=okX (SetTable.insertAt pl.toArray (SetTable.below pl.toArray slot) slot).toList && !SetTable.has #[] slot
noncomputable def lt8 (P:Nat→Bool):Bool:=(List.range 8).all P
theorem lt8_of {P:Nat→Bool} (h:lt8 P=true) {a:Nat} (ha:a < 8):P a=true:=by
 unfold lt8 at h
 rw [List.all_eq_true] at h
 exact h a (List.mem_range.mpr ha)
theorem bel_0:bel1 []=true:=by decide +kernel
theorem bel_1:lt8 (fun a=>bel1 [a])=true:=by decide +kernel
theorem bel_2:lt8 (fun a=>lt8 fun b=>!decide (a < b) || bel1 [a,b])=true:=by decide +kernel
theorem bel_3:lt8 (fun a=>lt8 fun b=>lt8 fun c=>!(decide (a < b) && decide (b < c)) || bel1 [a,b,c])=true:=by decide +kernel
theorem bel_X {pl:List Nat} (h:okX pl=true) (hl:pl.length≤3):bel1 pl=true:=by
 rcases okX_cases h hl with rfl | ⟨a,ha,rfl⟩ | ⟨a,b,h1,h2,rfl⟩ | ⟨a,b,c,h1,h2,h3,rfl⟩
 ·exact bel_0
 ·exact lt8_of bel_1 ha
 ·have:=lt8_of (lt8_of bel_2 (Nat.lt_trans h1 h2)) h2
  simpa [h1] using this
 ·have:=lt8_of (lt8_of (lt8_of bel_3 (by exact om237 h1 h2 h3:a < 8)) (by exact om247 h1 h2 h3:b < 8)) h3
  simpa [h1,h2] using this
theorem put_0:lt8 (fun d=>put1 [] d)=true:=by decide +kernel
theorem put_1:lt8 (fun a=>lt8 fun d=>decide (a=d) || put1 [a] d)=true:=by decide +kernel
theorem put_2:lt8 (fun a=>lt8 fun b=>lt8 fun d=>!decide (a < b) || decide (a=d) || decide (b=d) || put1 [a,b] d)=true:=by decide +kernel
theorem put_X' {pl:List Nat} (h:okX pl=true) (hl:pl.length≤2) {d:Nat} (hd:d < 8) (hn:d∉pl):put1 pl d=true:=by
 rcases okX_cases h (om100 hl) with rfl | ⟨a,ha,rfl⟩ | ⟨a,b,h1,h2,rfl⟩ | ⟨a,b,c,h1,h2,h3,rfl⟩
 ·exact lt8_of put_0 hd
 ·have:=lt8_of (lt8_of put_1 ha) hd
  simp at hn
  simpa [Ne.symm hn] using this
 ·have:=lt8_of (lt8_of (lt8_of put_2 (Nat.lt_trans h1 h2)) h2) hd
  simp at hn
  simpa [h1,Ne.symm hn.1,Ne.symm hn.2] using this
 ·simp at hl
noncomputable def plsA:List (List Nat):=[[],[0],[1],[2],[3],[4],[5],[6],[7],[0,1],[0,2],[0,3],[0,4],[0,5],[0,6],[0,7],[1,2],[1,3],[1,4],[1,5],[1,6],[1,7],[2,3],[2,4],[2,5],[2,6],[2,7],[3,4],[3,5],[3,6],[3,7],[4,5],[4,6],[4,7],[5,6],[5,7],[6,7]]
theorem plsA_1:lt8 (fun a=>plsA.contains [a])=true:=by decide +kernel
theorem plsA_2:lt8 (fun a=>lt8 fun b=>!decide (a < b) || plsA.contains [a,b])=true:=by decide +kernel
theorem mem_plsA {pl:List Nat} (h:okX pl=true) (hl:pl.length≤2):pl∈plsA:=by
 rcases okX_cases h (om100 hl) with rfl | ⟨a,ha,rfl⟩ | ⟨a,b,h1,h2,rfl⟩ | ⟨a,b,c,h1,h2,h3,rfl⟩
 ·exact .head _
 ·exact List.contains_iff_mem.mp (lt8_of plsA_1 ha)
 ·have:=lt8_of (lt8_of plsA_2 (Nat.lt_trans h1 h2)) h2
  exact List.contains_iff_mem.mp (by simpa [h1] using this)
 ·simp at hl
theorem fsG_all:fsG plsA=true:=by
 have h:plsA=[[],[0],[1],[2],[3],[4]]++([[5],[6],[7],[0,1],[0,2],[0,3]]++([[0,4],[0,5],[0,6],[0,7],[1,2],[1,3]]++([[1,4],[1,5],[1,6],[1,7],[2,3],[2,4]]++([[2,5],[2,6],[2,7],[3,4],[3,5],[3,6]]++([[3,7],[4,5],[4,6],[4,7],[5,6],[5,7]]++([[6,7]])))))):=rfl
 rw [h]
 unfold fsG
 simp only [List.all_append,Bool.and_eq_true]
 exact ⟨fs_0,fs_1,fs_2,fs_3,fs_4,fs_5,fs_6⟩
theorem put_X {led:Bool} {pl:List Nat} {k:Int} (hp:okX pl=true) (hl:pl.length≤2) (h0:7≤k) (h1:k < 55) :
  ∃ slot pl' p,(tbX led pl).freeSlot k=some (slot,false)∧(tbX led pl).put slot=(tbX led pl',p)∧okX pl'=true∧pl'.length=pl.length+1:=by
 have h:=fsG_all
 unfold fsG at h
 rw [List.all_eq_true] at h
 have h:=h pl (mem_plsA hp hl)
 rw [List.all_eq_true] at h
 have h:=h (k - 7).toNat (List.mem_range.mpr (om28 h0 h1))
 rw [show 7+(((k - 7).toNat:Nat):Int)=k by exact om27 h0 h1] at h
 have h:fsX led pl k=true:=by
  rw [Bool.and_eq_true] at h
  cases led
  ·exact h.1
  ·exact h.2
 unfold fsX at h
 cases e:(tbX led pl).freeSlot k with
 | none=>rw [e] at h;cases h
 | some sw =>
  obtain ⟨slot,wd⟩:=sw
  rw [e] at h
  simp only [Bool.and_eq_true,Bool.not_eq_true',decide_eq_true_eq] at h
  obtain ⟨⟨a1,a2⟩,a3⟩:=h
  subst a1
  have hn:slot∉pl:=fun hm=>by
   rw [List.all_eq_true] at a3
   have:=a3 slot hm
   simp at this
  have hput:=put_X' hp hl a2 hn
  unfold put1 at hput
  rw [Bool.and_eq_true,Bool.not_eq_true'] at hput
  refine ⟨slot,(SetTable.insertAt pl.toArray (SetTable.below pl.toArray slot) slot).toList,SetTable.below pl.toArray slot,rfl,?_,hput.1,?_⟩
  ·unfold SetTable.put tbX
   dsimp only
   rw [hput.2]
   simp
  ·rw [SetTable.toList_insertAt]
   simp
   exact om144
end Mine
end
section
namespace Mine
theorem hashInt_small {k:Int} (h0:7≤k) (h1:k < 55):hashInt k=k:=by
 have h:((List.range 48).all fun i=>hashInt (7+(i:Int)) == 7+(i:Int))=true:=by decide +kernel
 rw [List.all_eq_true] at h
 have h:=h (k - 7).toNat (List.mem_range.mpr (om28 h0 h1))
 rw [show 7+(((k - 7).toNat:Nat):Int)=k by exact om27 h0 h1] at h
 simpa using h
noncomputable def ElX (ks:List Int) (es:Array (Int×Value)):Prop:=Paired (fun k e=>(7≤k∧k < 55)∧∃ t,e=(k,Value.int k t)) ks es.toList
noncomputable abbrev setObjX (led:Bool) (es:Array (Int×Value)) (ep:Nat) (pl:List Nat):Obj:={ cls:=.type "set",dict:=none,data:=.set es ep (tbX led pl) }
inductive SetX (led:Bool) (h:Heap) (a:Addr) (ks:List Int):Prop
 | mk (es:Array (Int×Value)) (ep:Nat) (pl:List Nat) (g:h.get? a=some (setObjX led es ep pl)) (el:ElX ks es) (ok:okX pl=true) (l:pl.length=ks.length) (l3:ks.length≤3):SetX led h a ks
theorem fits_X {led:Bool} {pl:List Nat} {n:Nat} (h:pl.length=n) (h3:n≤3):(tbX led pl).fits n=true:=by
 simp [SetTable.fits,tbX,SetTable.fill,h];exact om214 h h3
theorem ElX.len {ks:List Int} {es:Array (Int×Value)} (h:ElX ks es):es.size=ks.length:=by rw [←Array.length_toList];exact h.length.symm
theorem ElX.elems {prog:Program} {w:World} {ks:List Int} {es:Array (Int×Value)} (h:ElX ks es):ElemsOf (intKind prog w) es.toList:=fun e he=>by
 obtain ⟨i,hi⟩:=List.mem_iff_getElem?.mp he
 obtain ⟨k,_,⟨h0,h1⟩,t,rfl⟩:=paired_get' h hi
 exact ⟨⟨k,by show Value.isInt k (.int k t)=true;simp [Value.isInt],(hashInt_small h0 h1).symm⟩,rfl⟩
theorem elx_find {ks:List Int} {l:List (Int×Value)} (h:Paired (fun k e=>(7≤k∧k < 55)∧∃ t,e=(k,Value.int k t)) ks l) (k:Int):(List.findIdx? (fun e=>Value.isInt k e.2) l).isSome=decide (k∈ks):=by
 induction h with
 | nil=>simp
 | cons a r ih =>
  rename_i x y xs ys
  obtain ⟨_,t,rfl⟩:=a
  rw [List.findIdx?_cons]
  by_cases q:x=k
  ·subst q;simp [Value.isInt]
  ·have:Value.isInt k (.int x t)=false:=by simp [Value.isInt,q]
   dsimp only
   rw [this]
   simp only [Bool.false_eq_true,if_false,Option.isSome_map,ih]
   simp [Ne.symm q]
theorem ElX.insert {ks:List Int} {es:Array (Int×Value)} (h:ElX ks es) {k:Int} {t:Tok} (h0:7≤k) (h1:k < 55) (p:Nat):ElX (ks.take p++k :: ks.drop p) (SetTable.insertAt es p (k,Value.int k t)):=by
 unfold ElX at *
 rw [SetTable.toList_insertAt]
 exact paired_append (paired_take p h) (.cons ⟨⟨h0,h1⟩,t,rfl⟩ (paired_drop p h))
section
variable {prog:Program} {w:World} {A:Around} {E:Value→Shared→Prop} {s:Shared} {led:Bool}
theorem setAdd_X {a:Addr} {ks:List Int} {k:Int} {t:Tok} {Q:Bool→Shared→Prop} (h0:7≤k) (h1:k < 55) (hS:SetX led s.heap a ks) (hk:k∈ks∨ks.length≤2)
  (h:∀ (h':Heap) ks' b,Heap.SameBut a s.heap h'→SetX led h' a ks'→(k∈ks→ks'=ks)→(k∉ks→ks'.Perm (k :: ks))→Q b { s with heap:=h' }) :
  wpAny (model prog w) A (setAddHashed a (.int k t) (hashInt k)) Q E s:=by
 obtain ⟨es,ep,pl,ho,hel,hpl,hpn,h3⟩:=hS
 have hf:(tbX led pl).fits es.size=true:=by rw [hel.len];exact fits_X hpn h3
 have hb:es.size < scanBound:=by rw [hel.len];unfold scanBound;exact om212 hpn h3
 unfold setAddHashed setAddHashedIn
 refine wpAny_holding (wpAny_bind (wpAny_setState_of ho rfl hf ?_))
 dsimp only
 rw [byScan_of (knd:=intKind prog w) rfl hb hel.elems]
 simp only [↓reduceIte]
 unfold setAddByScan
 refine wpAny_bind ?_
 refine wpAny_bind (wpAny_rule ?_)
 refine wpAny_bind (wpAny_setScan_of (knd:=intKind prog w) (x:=.int k t) (k:=k) (by show Value.isInt k (.int k t)=true;simp [Value.isInt]) ho rfl hf hel.elems ?_)
 rw [hashInt_small h0 h1]
 have hfi:=elx_find hel k
 change (List.findIdx? (fun e=>(intKind prog w).is k e.2) es.toList).isSome=decide (k∈ks) at hfi
 cases hr:List.findIdx? (fun e=>(intKind prog w).is k e.2) es.toList with
 | some j =>
  dsimp only
  rw [hr] at hfi
  have hm:k∈ks:=by simpa using hfi
  refine wpAny_pure (wpAny_pure ?_)
  exact h s.heap ks _ (Heap.SameBut.refl a s.heap) ⟨es,ep,pl,ho,hel,hpl,hpn,h3⟩ (fun _=>rfl) (fun q=>absurd hm q)
 | none =>
  dsimp only
  rw [hr] at hfi
  have hm:k∉ks:=by simpa using hfi
  have h2:ks.length≤2:=hk.resolve_left hm
  obtain ⟨slot,pl',p,e1,e2,e3,e4⟩:=put_X (led:=led) hpl (om185 hpn h3 h2) h0 h1
  have hsz:(SetTable.insertAt es p (k,Value.int k t)).size=ks.length+1:=by
   rw [←Array.length_toList,(SetTable.insertAt_perm es p _).length_eq,Array.toList_push,List.length_append,Array.length_toList,hel.len];rfl
  have hf':(tbX led pl').fits (SetTable.insertAt es p (k,Value.int k t)).size=true:=by rw [hsz];exact fits_X (om271 hpn e4) (om293 hpn h3 h2 e4 hsz)
  have hlay:layNew (tbX led pl) es k (.int k t)=(SetTable.insertAt es p (k,Value.int k t),tbX led pl',false,false):=by
   unfold layNew
   rw [e1]
   dsimp only
   rw [e2]
   dsimp only
   unfold SetTable.orStandIn
   rw [hf',if_pos rfl];rfl
  rw [hlay]
  dsimp only
  have hgw:∀ {s₁:Shared} {Q':Unit→Shared→Prop},Q' () s₁→wpAny (model prog w) A (pure ()) Q' E s₁:=fun hq=>wpAny_pure hq
  refine wpAny_bind (hgw ?_)
  rw [if_pos (show (tbX led pl').plain=true from rfl)]
  refine wpAny_bind ?_
  rw [hashByValue_scannable 8 (x:=.int k t) rfl]
  refine wpAny_pure ?_
  rw [show plainKind (.int k t)=true from rfl]
  simp only [↓reduceIte]
  refine wpAny_bind (wpAny_storeSet_of ho rfl ?_ (by rw [hsz,sizeLine_eq];exact om292 hpn h3 h2 e4 hsz))
  have htf:(tbX led pl').tooFull=false:=by
   simp [SetTable.tooFull,SetTable.fill,tbX];exact om294 hpn h3 h2 e4 hsz
  rw [htf]
  simp only [Bool.and_false,Bool.false_eq_true,↓reduceIte]
  refine wpAny_pure (wpAny_pure ?_)
  refine h _ (ks.take p++k :: ks.drop p) _ (Heap.SameBut.update s.heap a _) ⟨SetTable.insertAt es p (k,Value.int k t),ep+1,pl',?_,hel.insert h0 h1 p,e3,?_,?_⟩ (fun q=>absurd q hm) (fun _=>?_)
  ·have:=Heap.get?_update_self (Obj.putSet (SetTable.insertAt es p (k,Value.int k t)) (tbX led pl')) ho (by rfl)
   exact this
  ·rw [e4,hpn];simp;exact om319 hpn e4 hsz
  ·simp;exact om320 hpn h3 h2 e4 hsz
  ·exact (List.perm_middle).trans (by rw [List.take_append_drop])
end
end Mine
end
section
namespace Mine
theorem SetX.keep {led:Bool} {h h':Heap} {a:Addr} {ks:List Int} (x:SetX led h a ks) (k:∀ o,h.get? a=some o→h'.get? a=some o):SetX led h' a ks:=by
 obtain ⟨es,ep,pl,ho,r1,r2,r3,r4⟩:=x
 exact ⟨es,ep,pl,k _ ho,r1,r2,r3,r4⟩
noncomputable abbrev ledOf (w:World):Bool:=!(w.params.followText "set-order")
section
variable {prog:Program} {w:World} {A:Around} {R:Result→Shared→Prop} {I:Addr} {fp wr:List Addr} {G:Array GenState→Array GenState→Prop} {n:Nat} {P:Nat→Value→Prop} {St:Nat→Shared→Prop} {led:Bool}
theorem updateX (W:WalksS prog w A.in1 I fp wr G n P St) (S:Addr) (hSf:S∉fp) (val:Nat→Int) (hval:∀ i v,P i v→∃ t,v=.int (val i) t) (hr:∀ i,i < n→7≤val i∧val i < 55)
  (hd:∀ ks:List Int,ks.Nodup→(∀ x∈ks,∃ i,i < n∧val i=x)→ks.length≤3) :
  ∀ (k i:Nat) (s:Shared) (ks:List Int),n - i=k→i≤n→St i s→SetX led s.heap S ks→ks.Nodup→(∀ x,x∈ks↔∃ j,j < i∧val j=x) →
   (∀ s' ks',Moved (S :: wr) G s s'→SetX led s'.heap S ks'→ks'.Nodup→(∀ x,x∈ks'↔∃ j,j < n∧val j=x)→R (.ok (.ret .none)) s') →
   codeAny (model prog w) A (.builtin "set.update.loop" ⟨[.ref S,.ref I],[]⟩) R s:=by
 have hSw:S∉wr:=fun h=>hSf (W.sub _ h)
 have hsub:∀ b∈wr,b∈S :: wr:=fun b hb=>List.mem_cons_of_mem _ hb
 intro k
 induction k with
 | zero =>
  intro i s ks hk hi hst hS hn hm hR
  have hin:i=n:=by exact om173 hk hi
  subst hin
  refine codeAny_builtin F.entry_set_update_loop ?_
  rw [Around.under_plainId F.plain_set_update_loop _]
  show wpAny _ A.in1 (pyNext (.ref I) >>= _) _ _ s
  refine wpAny_bind (W.done s _ _ hst fun s' mv=>?_)
  show wpAny _ A.in1 (ret Value.none) _ _ s'
  exact wpAny_pure (hR s' ks (mv.mono hsub) (hS.keep fun o e=>mv.heap S o hSw e) hn hm)
 | succ k ih =>
  intro i s ks hk hi hst hS hn hm hR
  have hlt:i < n:=by exact om235 hk hi
  refine codeAny_builtin F.entry_set_update_loop ?_
  rw [Around.under_plainId F.plain_set_update_loop _]
  show wpAny _ A.in1 (pyNext (.ref I) >>= _) _ _ s
  refine wpAny_bind (W.item i s _ _ hlt hst fun v s' hP hst' mv=>?_)
  obtain ⟨t,rfl⟩:=hval i v hP
  have hS':SetX led s'.heap S ks:=hS.keep fun o e=>mv.heap S o hSw e
  show wpAny _ A.in1 (holding [Value.int (val i) t] (setAdd S (.int (val i) t)) >>= _) _ _ s'
  refine wpAny_bind (wpAny_holding ?_)
  unfold setAdd
  refine wpAny_holding ?_
  refine wpAny_bind ((intKind prog w).pyHash (k:=val i) (intKind_is _ _ _ _) ?_)
  have hk2:val i∈ks∨ks.length≤2:=by
   by_cases q:val i∈ks
   ·exact .inl q
   ·refine .inr ?_
    have:=hd (val i :: ks) (List.nodup_cons.mpr ⟨q,hn⟩) fun x hx=>by
     rcases List.mem_cons.mp hx with rfl | hx
     ·exact ⟨i,hlt,rfl⟩
     ·obtain ⟨j,hj,e⟩:=(hm x).mp hx
      exact ⟨j,om268 hlt hj,e⟩
    simp at this;exact om99 this
  refine setAdd_X (s:={ s' with toks:=s'.toks+1 }) (hr i hlt).1 (hr i hlt).2 hS' hk2 fun h' ks' b hsb hS2 c1 c2=>?_
  have hn':ks'.Nodup:=by
   by_cases q:val i∈ks
   ·rw [c1 q];exact hn
   ·exact (c2 q).nodup_iff.mpr (List.nodup_cons.mpr ⟨q,hn⟩)
  have hm':∀ x,x∈ks'↔∃ j,j < i+1∧val j=x:=fun x=>by
   have e1:x∈ks'↔x=val i∨x∈ks:=by
    by_cases q:val i∈ks
    ·rw [c1 q]
     exact ⟨.inr,fun h=>h.elim (fun e=>e▸q) id⟩
    ·rw [(c2 q).mem_iff,List.mem_cons]
   rw [e1,hm x]
   constructor
   ·rintro (rfl | ⟨j,hj,e⟩)
    ·exact ⟨i,om88,rfl⟩
    ·exact ⟨j,om178 hj,e⟩
   ·rintro ⟨j,hj,e⟩
    by_cases z:j=i
    ·subst z;exact .inl e.symm
    ·exact .inr ⟨j,om175 hj z,e⟩
  refine wpAny_pure ⟨plainId_quiet F.plain_set_update_loop _,ih (i+1) _ ks' (om233 hk hlt) hlt (W.frame _ s' _ _ hst' (Nat.le_succ _) fun b hb o e=>?_) hS2 hn' hm' fun s'' ks'' mv'' hS'' hn'' hm''=>?_⟩
  ·rw [hsb.2 b (fun h:b=S=>hSf (by rw [←h];exact hb))];exact e
  ·refine hR s'' ks'' (Moved.trans W.gtrans ((mv.mono hsub).then_heap (Nat.le_succ _) fun b o hb e=>?_) mv'') hS'' hn'' hm''
   rw [hsb.2 b (fun h:b=S=>hb (by rw [h];exact List.mem_cons_self))];exact e
end
section
variable {prog:Program} {w:World} {A:Around} {E:Value→Shared→Prop} {s:Shared}
theorem set_newX (a:Value) {Q₁:Value→Shared→Prop}
  (h:Q₁ (.ref s.heap.objs.size) { s with heap:=s.heap.push { cls:=.type "set",dict:=none,data:=.set #[] 0 (.fresh 0 0 (ledOf w)) } }) :
  codeAny (model prog w) A (.call (.builtin "set.__new__") ⟨[.type "set",a],[]⟩) (wants Q₁ E) s:=by
 refine codeAny_of_tree ?_
 show wpAny _ A.in1 (do checkBuiltinCall "set.__new__" ⟨[.type "set",a],[]⟩;again (.builtin "set.__new__" ⟨[.type "set",a],[]⟩)) _ _ s
 refine wpAny_bind (wpAny_of_eq (PySem.F.newCall_set_1 a) (wpAny_pure ⟨plainId_quiet PySem.F.plain_set_new _,codeAny_builtin PySem.F.entry_set_new ?_⟩))
 rw [Around.under_plainId PySem.F.plain_set_new _]
 unfold Builtin.«set.__new__» Builtin.Frozenset.newClass
 have hsub:=PySem.sub_set_self
 obtain ⟨hp,g,d,tk,os⟩:=s
 dsimp only
 wp_walk
 refine wpAny_askSetting (wpAny_pure ?_)
 dsimp only
 simp only [newObj]
 refine wpAny_bind (wpAny_alloc (wpAny_pure ?_))
 exact wpAny_pure h
end
end Mine
end
section
namespace Mine
section
variable {prog:Program} {w:World} {A:Around} {E:Value→Shared→Prop} {s:Shared}
set_option maxHeartbeats 3200000 in
theorem call_set_X {l:Addr} {items:Array Value} {ns:List Int} {Q:Value→Shared→Prop}
  (hh:A.handled=none) (hl:s.heap.IsList l items) (hi:PyProof.Rows.IntsAre items.toList ns) (hr:∀ x∈ns,7≤x∧x < 55)
  (h3:∀ ks:List Int,ks.Nodup→(∀ x∈ks,x∈ns)→ks.length≤3)
  (h:∀ (h':Heap) (tk:Nat) ks,SetX (ledOf w) h' s.heap.objs.size ks→ks.Nodup→(∀ x,x∈ks↔x∈ns) →
   (∀ b o,b < s.heap.objs.size→s.heap.get? b=some o→h'.get? b=some o)→Q (.ref s.heap.objs.size) { s with heap:=h',toks:=tk }) :
  wpAny (model prog w) A (call (.type "set") [.ref l]) Q E s:=by
 have hlen:items.size=ns.length:=by rw [←Array.length_toList];exact hi.length
 have hvi:∀ i,i < ns.length→ns.getD i 0∈ns:=fun i hi'=>by
  rw [List.getD_eq_getElem?_getD,List.getElem?_eq_getElem hi'];exact List.getElem_mem hi'
 have hiv:∀ x,(∃ j,j < items.size∧ns.getD j 0=x)↔x∈ns:=fun x=>by
  rw [hlen]
  constructor
  ·rintro ⟨j,hj,rfl⟩;exact hvi j hj
  ·intro hx
   obtain ⟨j,hj,e⟩:=List.mem_iff_getElem.mp hx
   exact ⟨j,hj,by rw [List.getD_eq_getElem?_getD,List.getElem?_eq_getElem hj];exact e⟩
 obtain ⟨c,tl,hmro⟩:=PySem.F.called_set.mro
 have hmade:=PySem.F.called_set.made
 have hsub:=PySem.F.called_set.sub
 refine wpAny_call (codeAny_of_tree ?_)
 show wpAny _ _ (callAny (.type "set") _) _ _ _
 refine wpAny_pure ⟨Code.quiet_builtin _ (by decide +kernel),codeAny_builtin PySem.F.entry_type_call ?_⟩
 rw [Around.under_plain (weight_type_call_type "set" [.ref l] []) rfl]
 have h1:=PySem.F.called_set.notType
 have h2:=PySem.F.called_set.canCreate
 have hct:=PySem.F.typeCall_set_1 (.ref l)
 repeat (any_goals (first | assumption | wp_step))
 refine codeAny_mono (set_newX (.ref l) (E:=E) (Q₁:=fun obj s₁=>obj=.ref s.heap.objs.size∧s₁={ s with heap:=s.heap.push { cls:=.type "set",dict:=none,data:=.set #[] 0 (.fresh 0 0 (ledOf w)) } }) ⟨rfl,rfl⟩) fun r s₁ hr₁=>?_
 cases r with
 | error e=>exact hr₁
 | ok fl =>
  cases fl with
  | ret obj =>
   obtain ⟨rfl,rfl⟩:=hr₁
   have hS:(s.heap.push { cls:=.type "set",dict:=none,data:=.set #[] 0 (.fresh 0 0 (ledOf w)) }).get? s.heap.objs.size=some { cls:=.type "set",dict:=none,data:=.set #[] 0 (.fresh 0 0 (ledOf w)) }:=Heap.get?_push_size _ rfl
   have hT:Shared.TypeIs { s with heap:=s.heap.push { cls:=.type "set",dict:=none,data:=.set #[] 0 (.fresh 0 0 (ledOf w)) } } (.ref s.heap.objs.size) "set":=⟨_,hS,rfl⟩
   have hli:=PySem.F.called_set.init.lookup
   have hbi:=PySem.F.called_set.init.bind (.ref s.heap.objs.size)
   repeat (any_goals (first | assumption | wp_step))
   refine codeAny_mono (codeAny_call_builtin (R:=wants (fun r s₂=>r=.none∧∃ h' tk ks,s₂={ s with heap:=h',toks:=tk } ∧
     SetX (ledOf w) h' s.heap.objs.size ks∧ks.Nodup∧(∀ x,x∈ks↔x∈ns) ∧
     (∀ b o,b < s.heap.objs.size→s.heap.get? b=some o→h'.get? b=some o)) E) PySem.F.called_set.init.plain PySem.F.entry_set_init (check_set_init_1 hT ?_)) fun r₂ s₂ hr₂=>?_
   ·obtain ⟨ol,hol,hcl,nl,hdl⟩:=hl
    obtain ⟨ocls,odict,odata,oslots⟩:=ol
    simp only at hcl hdl
    subst hcl;subst hdl
    have hol':(s.heap.push { cls:=.type "set",dict:=none,data:=.set #[] 0 (.fresh 0 0 (ledOf w)) }).get? l=some { cls:=.type "list",dict:=odict,data:=.seq items nl,slots:=oslots }:=Heap.get?_push_of_some _ hol
    have hsls:=PySem.F.sub_list_set
    have hslf:=PySem.F.sub_list_frozenset
    have hne:(Value.type "list" == Value.type "dict")=false:=by decide
    have hl1:(s.heap.push { cls:=.type "set",dict:=none,data:=.set #[] 0 (.fresh 0 0 (ledOf w)) }).IsList l items:=⟨_,hol',rfl,nl,rfl⟩
    unfold Builtin.«set.__init__» noKeywords Builtin.Frozenset.updateFrom
    generalize hPI:pyIter=PI
    wp_walk
    subst hPI
    refine wpAny_pyIter_list hl1 ?_
    refine wpAny_bind (wpAny_runValue ?_)
    have hlS:l < s.heap.objs.size:=Heap.lt_size hol
    have hh3:A.in1.in1.in1.handled=none:=by simp [hh]
    have hneI:l≠(s.heap.push { cls:=.type "set",dict:=none,data:=.set #[] 0 (.fresh 0 0 (ledOf w)) }).objs.size:=by
     rw [Heap.size_push];exact Nat.ne_of_lt (Nat.lt_succ_of_lt hlS)
    have hSf:s.heap.objs.size∉[(s.heap.push { cls:=.type "set",dict:=none,data:=.set #[] 0 (.fresh 0 0 (ledOf w)) }).objs.size,l]:=by
     rw [Heap.size_push];simp only [List.mem_cons,List.mem_singleton,List.not_mem_nil,or_false,not_or]
     exact ⟨Nat.ne_of_lt (Nat.lt_succ_self _),Nat.ne_of_gt hlS⟩
    have hval:∀ (i:Nat) (v:Value),items[i]?=some v→∃ t,v=.int ((fun i=>ns.getD i 0) i) t:=fun i v hv =>
     PyProof.Rows.IntsAre.int_at hi i v (by rw [Array.getElem?_toList];exact hv)
    refine updateX (led:=ledOf w) ((Walks.list hh3 _ l hneI items).toS) s.heap.objs.size
     hSf (fun i=>ns.getD i 0) hval (fun i hi'=>hr _ (hvi i (om270 hlen hi'))) (fun ks hn hk=>h3 ks hn fun x hx=>(hiv x).mp (hk x hx)) (items.size - 0) 0 _ [] (om84) (Nat.zero_le _)
     ⟨⟨_,Heap.get?_push_size _ rfl,rfl,rfl⟩,(hl1.push _)⟩ ?hS0 List.nodup_nil ?hm0 ?hR
    case hS0 =>
     have hget:((s.heap.push { cls:=.type "set",dict:=none,data:=.set #[] 0 (.fresh 0 0 (ledOf w)) }).push { cls:=.type "list_iterator",data:=.fields #[.ref l,.int 0 0] }).get? s.heap.objs.size
       = some { cls:=.type "set",dict:=none,data:=.set #[] 0 (.fresh 0 0 (ledOf w)) }:=Heap.get?_push_of_some _ hS
     exact ⟨#[],0,[],hget,Paired.nil,rfl,rfl,Nat.zero_le _⟩
    case hm0 =>
     intro x
     constructor
     ·intro hx;cases hx
     ·rintro ⟨j,hj,_⟩;omega
    case hR =>
     intro s' ks hm hS' hn hmem
     obtain ⟨h',g',d',tk',os'⟩:=s'
     have eg:g'=s.gens:=hm.gens
     have ed:d'=s.drawn:=hm.drawn
     have eo:os'=s.os:=hm.os
     subst eg;subst ed;subst eo
     show wpAny _ _ _ _ _ _
     refine wpAny_pure ?_
     show wpAny _ _ (ret Value.none) _ _ _
     refine wpAny_pure ⟨rfl,h',tk',ks,rfl,hS',hn,fun x=>(hmem x).trans (hiv x),fun b o hb e=>?_⟩
     have hb1:b≠s.heap.objs.size:=Nat.ne_of_lt hb
     have hb2:b≠(s.heap.push { cls:=.type "set",dict:=none,data:=.set #[] 0 (.fresh 0 0 (ledOf w)) }).objs.size:=by
      rw [Heap.size_push];exact Nat.ne_of_lt (Nat.lt_succ_of_lt hb)
     exact hm.heap b o (by simp only [List.mem_cons,List.mem_singleton,List.not_mem_nil,or_false,not_or];exact ⟨hb1,hb2⟩) (Heap.get?_push_of_some _ (Heap.get?_push_of_some _ e))
   ·cases r₂ with
    | error e=>exact hr₂
    | ok fl₂ =>
     cases fl₂ with
     | ret r =>
      obtain ⟨rfl,h',tk,ks,rfl,hS',hn,hmem,hk'⟩:=hr₂
      repeat (any_goals (first | assumption | wp_step))
      exact h _ _ ks hS' hn hmem hk'
     | _=>exact hr₂.elim
  | _=>exact hr₁.elim
end
end Mine
end
section
namespace Mine
theorem pickGo_perm {α:Type} (next:Nat→Nat):∀ (n k:Nat) (left:List α) (out:Array α),left.length=n→(pickOrder.go next n k left out).toList.Perm (out.toList++left):=by
 intro n
 induction n with
 | zero =>
  intro k left out h
  have:left=[]:=List.eq_nil_of_length_eq_zero h
  subst this
  unfold pickOrder.go
  simp
 | succ n ih =>
  intro k left out h
  unfold pickOrder.go
  have hlt:next k % left.length < left.length:=Nat.mod_lt _ (om179 h)
  rw [List.getElem?_eq_getElem hlt]
  dsimp only
  refine (ih (k+1) _ _ (by rw [List.length_eraseIdx,if_pos hlt];exact om180 h)).trans ?_
  rw [Array.toList_push,List.append_assoc]
  refine List.Perm.append_left _ ?_
  rw [List.singleton_append]
  have h2:left.Perm (left[next k % left.length] :: left.eraseIdx (next k % left.length)):=by
   rw [List.eraseIdx_eq_take_drop_succ]
   conv=>lhs;rw [←List.take_append_drop (next k % left.length) left,List.drop_eq_getElem_cons hlt]
   exact List.perm_middle
  exact h2.symm
theorem pickOrder_perm {α:Type} (next:Nat→Nat) (xs:Array α):(pickOrder next xs).toList.Perm xs.toList:=by
 unfold pickOrder
 have:=pickGo_perm next xs.size 0 xs.toList #[] (by simp)
 simpa using this
noncomputable def ordX (w:World) (S:Addr) (ep:Nat) (es:Array (Int×Value)):Array Value:=(if w.params.followText "set-order" then pickOrder (w.params.setOrder S ep) es else es).map (·.2)
theorem ordX_perm (w:World) (S:Addr) (ep:Nat) (es:Array (Int×Value)):(ordX w S ep es).toList.Perm (es.toList.map (·.2)):=by
 unfold ordX
 rw [Array.toList_map]
 split
 ·exact (pickOrder_perm _ es).map _
 ·exact List.Perm.refl _
theorem ordX_size (w:World) (S:Addr) (ep:Nat) (es:Array (Int×Value)):(ordX w S ep es).size=es.size:=by
 have:=(ordX_perm w S ep es).length_eq
 simpa using this
theorem set_it_slot:Slot "set" "__iter__" "set.__iter__" :=
 .of (owner := "set") (n := "__iter__") (by rw [typeLookup_type,builtinLookup_eq_fast];kernel_rfl) (by decide +kernel) (by decide +kernel) (by decide +kernel)
  (by first | exact .inl (by decide +kernel) | exact .inr (by decide +kernel)) (by rw [isSubtype_type];kernel_rfl)
theorem set_it_entry:entryFor table "set.__iter__"=some Builtin.«frozenset.__iter__»:=entryFor_alias (id' := "frozenset.__iter__") (by kernel_rfl) rfl (by decide +kernel) (by kernel_rfl)
theorem set_it_args (a:Value):argsOk "set.__iter__" ⟨[a],[]⟩:=by unfold argsOk;kernel_rfl
theorem setit_next_slot:Slot "set_iterator" "__next__" "set_iterator.__next__" :=
 .of (owner := "set_iterator") (n := "__next__") (by rw [typeLookup_type,builtinLookup_eq_fast];kernel_rfl) (by decide +kernel) (by decide +kernel) (by decide +kernel)
  (by first | exact .inl (by decide +kernel) | exact .inr (by decide +kernel)) (by rw [isSubtype_type];kernel_rfl)
theorem setit_next_entry:entryFor table "set_iterator.__next__"=some Builtin.«set_iterator.__next__»:=entryFor_of_tree (by kernel_rfl)
theorem setit_next_args (a:Value):argsOk "set_iterator.__next__" ⟨[a],[]⟩:=by unfold argsOk;kernel_rfl
theorem setit_iter_slot:Slot "set_iterator" "__iter__" "set_iterator.__iter__" :=
 .of (owner := "set_iterator") (n := "__iter__") (by rw [typeLookup_type,builtinLookup_eq_fast];kernel_rfl) (by decide +kernel) (by decide +kernel) (by decide +kernel)
  (by first | exact .inl (by decide +kernel) | exact .inr (by decide +kernel)) (by rw [isSubtype_type];kernel_rfl)
theorem setit_iter_entry:entryFor table "set_iterator.__iter__"=some Builtin.«dict_keyiterator.__iter__»:=entryFor_alias (id' := "dict_keyiterator.__iter__") (by kernel_rfl) rfl (by decide +kernel) (by kernel_rfl)
theorem setit_iter_args (a:Value):argsOk "set_iterator.__iter__" ⟨[a],[]⟩:=by unfold argsOk;kernel_rfl
section
variable {prog:Program} {w:World} {A:Around} {E:Value→Shared→Prop} {s:Shared}
noncomputable abbrev sitObj (slot i:Nat) (S:Addr) (n ep:Nat):Obj:={ cls:=.type "set_iterator",data:=.fields #[rawInt slot,rawInt i,.ref S,rawInt n,rawInt ep] }
theorem iter_X {S:Addr} {led:Bool} {es:Array (Int×Value)} {ep:Nat} {pl:List Nat} {Q:Value→Shared→Prop} (ho:s.heap.get? S=some (setObjX led es ep pl)) (hf:(tbX led pl).fits es.size=true)
  (hQ:Q (.ref s.heap.objs.size) { s with heap:=s.heap.push (sitObj 0 0 S es.size ep) }):wpAny (model prog w) A (pyIter (.ref S)) Q E s:=by
 have hT:s.TypeIs (.ref S) "set":=⟨_,ho,rfl⟩
 refine wpAny_pyIter_slot hT set_it_slot (wpAny_call_entry set_it_slot hT set_it_entry ?_ (set_it_args _))
 unfold Builtin.«frozenset.__iter__» Builtin.Frozenset.slot0 slotArgs
 simp only [List.isEmpty_nil,Bool.not_true,Bool.false_eq_true,↓reduceIte,bind_assoc,List.length_nil,bne_self_eq_false]
 unfold Builtin.Frozenset.addrOf Builtin.Frozenset.sizeOf
 refine wpAny_bind (wpAny_pure ?_)
 try dsimp only
 refine wpAny_bind (wpAny_pure ?_)
 refine wpAny_bind (wpAny_bind (wpAny_setEntries_of ho rfl hf (wpAny_pure ?_)))
 refine wpAny_bind ?_
 unfold setDrawn
 refine wpAny_bind (wpAny_setState_of ho rfl hf ?_)
 dsimp only
 unfold setsByText
 refine wpAny_bind ?_
 refine wpAny_bind (wpAny_askSetting (wpAny_pure ?_))
 refine wpAny_pure ?_
 show wpAny _ _ (if (!w.params.followText "set-order" && (false && decide (es.size > 1)))=true then _ else _) _ _ s
 rw [if_neg (by simp)]
 refine wpAny_bind (wpAny_pure ?_)
 unfold setEpoch
 refine wpAny_bind (wpAny_bind (wpAny_setState_of ho rfl hf (wpAny_pure ?_)))
 simp only [newFields]
 refine wpAny_bind (wpAny_newObj_type (wpAny_pure ⟨_,rfl,"set_iterator",_,⟨_,Heap.get?_push_size _ rfl,rfl⟩,setit_next_slot.lookup,?_⟩))
 exact hQ
end
end Mine
end
section
namespace Mine
noncomputable abbrev txt (w:World):Bool:=w.params.followText "set-order"
structure SitX (w:World) (S:Addr) (es:Array (Int×Value)) (ep:Nat) (pl:List Nat) (I:Addr) (i:Nat) (h:Heap):Prop where
 set:h.get? S=some (setObjX (ledOf w) es ep pl)
 it:∃ slot,h.get? I=some (sitObj slot i S es.size ep)∧(txt w=false→SetTable.below pl.toArray slot=i)
section
variable {prog:Program} {w:World} {A:Around} {E:Value→Shared→Prop} {s:Shared} {S:Addr} {es:Array (Int×Value)} {ep:Nat} {pl:List Nat} {I:Addr}
theorem setNext_X {i slot:Nat} {Q:Option (Value×Nat)→Shared→Prop} (ho:s.heap.get? S=some (setObjX (ledOf w) es ep pl)) (hf:(tbX (ledOf w) pl).fits es.size=true)
  (hpl:okX pl=true) (hpn:pl.length=es.size) (hn:es.size≤3) (hb:txt w=false→SetTable.below pl.toArray slot=i)
  (hQ:∀ next,(txt w=false→i < es.size→SetTable.below pl.toArray next=i+1)→Q ((ordX w S ep es)[i]?.map fun v=>(v,next)) s):wpAny (model prog w) A (setNext S slot i ep) Q E s:=by
 have hbx:=bel_X hpl (om184 hpn hn)
 unfold setNext
 refine wpAny_bind (wpAny_setState_of ho rfl hf ?_)
 dsimp only
 unfold setsByText
 refine wpAny_bind ?_
 refine wpAny_bind (wpAny_askSetting (wpAny_pure ?_))
 show wpAny _ _ (if txt w=true then _ else _) _ _ s
 by_cases ht:txt w=true
 ·rw [if_pos ht,if_neg (by simp)]
  refine wpAny_bind ?_
  unfold setWalk
  refine wpAny_bind (wpAny_setState_of ho rfl hf ?_)
  dsimp only
  unfold setsByText
  refine wpAny_bind ?_
  refine wpAny_bind (wpAny_askSetting (wpAny_pure ?_))
  show wpAny _ _ (if txt w=true then _ else _) _ _ s
  rw [if_pos ht]
  refine wpAny_bind (wpAny_askSetting (wpAny_pure ?_))
  refine wpAny_pure ?_
  show Q (((pickOrder (w.params.setOrder S ep) es)[i]?).map fun e=>(e.2,slot)) s
  have:=hQ slot (fun h=>by rw [ht] at h;cases h)
  unfold ordX at this
  rw [if_pos ht] at this
  simpa [Function.comp_def,Option.map_map,Array.getElem?_map] using this
 ·have ht':txt w=false:=by simpa using ht
  rw [if_neg ht]
  have hl:ledOf w=true:=by show (!txt w)=true;rw [ht'];rfl
  have hd:∀ (t1 t2:Sem (Option (Value×Nat))),(if (!(tbX (ledOf w) pl).plain && decide (es.size > 1))=true then t1 else t2)=t2:=fun t1 t2=>if_neg (by simp [tbX])
  refine (hd _ _).symm▸?_
  refine wpAny_bind ?_
  show wpAny _ _ (if (!(ledOf w) && !es.isEmpty)=true then (unsupported "set:maker-not-led":Sem Unit) else pure ()) _ _ s
  rw [if_neg (by rw [hl];simp)]
  refine wpAny_pure (wpAny_pure ?_)
  show Q (match es[SetTable.below pl.toArray slot]?,pl.toArray[SetTable.below pl.toArray slot]? with | some (_,x),some j=>some (x,j+1) | _,_=>none) s
  rw [hb ht']
  by_cases q:i < es.size
  ·have hip:i < pl.toArray.size:=by rw [List.size_toArray];exact om253 hpn q
   have h2:=hQ (pl.toArray[i]+1) (fun _ _=>by
    unfold bel1 at hbx
    rw [Bool.and_eq_true,List.all_eq_true] at hbx
    have:=hbx.2 i (List.mem_range.mpr (by omega))
    rw [List.getD_eq_getElem?_getD,List.getElem?_eq_getElem (by omega)] at this
    simpa using this)
   unfold ordX at h2
   rw [if_neg (by rw [show w.params.followText "set-order"=false from ht'];simp)] at h2
   rw [Array.getElem?_eq_getElem q,Array.getElem?_eq_getElem hip]
   simpa [Array.getElem?_map,Array.getElem?_eq_getElem q] using h2
  ·have h2:=hQ 0 (fun _ h=>absurd h q)
   unfold ordX at h2
   rw [if_neg (by rw [show w.params.followText "set-order"=false from ht'];simp)] at h2
   rw [Array.getElem?_eq_none (om226 q)]
   simpa [Array.getElem?_map,Array.getElem?_eq_none (show es.size≤i by exact om226 q)] using h2
theorem sit_set {it:Addr} {fs:Array Value} {h:Heap} (ho:h.get? it=some { cls:=.type "set_iterator",data:=.fields fs }) (g:Array Value→Array Value) :
  (h.update it (Obj.mapFields g)).get? it=some { cls:=.type "set_iterator",data:=.fields (g fs) } :=
 Heap.get?_update_self _ ho (Obj.isFreed_of_fields (Obj.data_mapFields rfl _))
theorem next_X {i:Nat} {v:Value} {Q:Option Value→Shared→Prop} (st:SitX w S es ep pl I i s.heap) (hIS:I≠S) (hf:(tbX (ledOf w) pl).fits es.size=true)
  (hpl:okX pl=true) (hpn:pl.length=es.size) (hn:es.size≤3) (hx:(ordX w S ep es)[i]?=some v)
  (hQ:∀ h',SitX w S es ep pl I (i+1) h'→(∀ b o,b≠I→s.heap.get? b=some o→h'.get? b=some o)→Q (some v) { s with heap:=h' }) :
  wpAny (model prog w) A (pyNext (.ref I)) Q E s:=by
 obtain ⟨hS,slot,hI,hb⟩:=st
 have hT:s.TypeIs (.ref I) "set_iterator":=⟨_,hI,rfl⟩
 unfold pyNext
 refine wpAny_bind (wpAny_attempt (wpAny_callSpecial?_slot (name:=Str.ofString "__next__") hT setit_next_slot
  (wpAny_call_entry setit_next_slot hT setit_next_entry ?_ (setit_next_args _))))
 unfold Builtin.«set_iterator.__next__»
 refine wpAny_bind (wpAny_pure ?_)
 dsimp only
 refine wpAny_bind (wpAny_fieldsOf hI rfl ?_)
 dsimp only [rawInt]
 refine wpAny_bind (wpAny_setEntries_of hS rfl hf ?_)
 rw [if_neg (by simp)]
 simp only [Int.toNat_natCast]
 refine wpAny_bind (setNext_X hS hf hpl hpn hn hb fun next hnext=>?_)
 rw [hx]
 dsimp only [Option.map]
 refine wpAny_bind (wpAny_setField hI rfl (by simp) ?_)
 refine wpAny_bind (wpAny_setField (sit_set hI _) rfl (by simp) ?_)
 have hlt:i < es.size:=by
  rw [←ordX_size w S ep es]
  exact (Array.getElem?_eq_some_iff.mp hx).1
 refine wpAny_pure ⟨_,rfl,wpAny_pure (hQ _ ⟨?_,next,?_,fun h=>hnext h hlt⟩ fun b o hb e=>?_)⟩
 ·rw [Heap.get?_update_other _ _ hIS,Heap.get?_update_other _ _ hIS];exact hS
 ·exact sit_set (sit_set hI _) _
 ·rw [Heap.get?_update_other _ _ (Ne.symm hb),Heap.get?_update_other _ _ (Ne.symm hb)];exact e
theorem end_X {Q:Option Value→Shared→Prop} (hh:A.handled=none) (st:SitX w S es ep pl I es.size s.heap) (hIS:I≠S) (hf:(tbX (ledOf w) pl).fits es.size=true)
  (hpl:okX pl=true) (hpn:pl.length=es.size) (hn:es.size≤3)
  (hQ:∀ h',(∀ b o,b≠I→s.heap.get? b=some o→h'.get? b=some o)→Q none { s with heap:=h' }) :
  wpAny (model prog w) A (pyNext (.ref I)) Q E s:=by
 obtain ⟨hS,slot,hI,hb⟩:=st
 have hT:s.TypeIs (.ref I) "set_iterator":=⟨_,hI,rfl⟩
 unfold pyNext
 refine wpAny_bind (wpAny_attempt (wpAny_callSpecial?_slot (name:=Str.ofString "__next__") hT setit_next_slot
  (wpAny_call_entry setit_next_slot hT setit_next_entry ?_ (setit_next_args _))))
 unfold Builtin.«set_iterator.__next__»
 refine wpAny_bind (wpAny_pure ?_)
 dsimp only
 refine wpAny_bind (wpAny_fieldsOf hI rfl ?_)
 dsimp only [rawInt]
 refine wpAny_bind (wpAny_setEntries_of hS rfl hf ?_)
 rw [if_neg (by simp)]
 simp only [Int.toNat_natCast]
 refine wpAny_bind (setNext_X hS hf hpl hpn hn hb fun next hnext=>?_)
 rw [Array.getElem?_eq_none (by rw [ordX_size];exact Nat.le_refl _)]
 dsimp only [Option.map]
 refine wpAny_bind (wpAny_setField hI rfl (by simp) ?_)
 refine wpAny_bind ?_
 simp only [newExc,newTuple]
 refine wpAny_bind (wpAny_newObj_type ?_ (by size_fits))
 refine wpAny_bind (m:=firstArgMember _ _) (wpAny_of_eq (a:=Value.none) (by first | rfl | (simp only [firstArgMember];rfl)) ?_)
 refine wpAny_newObj_type ?_ (by size_fits)
 simp only [raiseNew]
 refine wpAny_bind (wpAny_handled ?_)
 rw [show A.in1.handled=none from hh]
 refine wpAny_bind (wpAny_pure (wpAny_throw ?_))
 refine wpAny_bind (wpAny_isInstance (T := "StopIteration") (b:=true) ⟨_,Heap.get?_push_size _ rfl,rfl⟩ isSubtype_stop ?_)
 exact wpAny_pure (hQ _ fun b o hb e=>(((Heap.SameBut.update ..).extBut.push _).push _) b o hb e)
end
end Mine
end
section
namespace Mine
theorem intsAre_perm {vs ws:List Value} (h:vs.Perm ws):∀ {ks:List Int},IntsAre vs ks→∃ ns,IntsAre ws ns∧ns.Perm ks:=by
 induction h with
 | nil=>intro ks h;exact ⟨ks,h,.refl _⟩
 | cons x _ ih =>
  intro ks h
  cases h with
  | cons n t r =>
   obtain ⟨ns,a,b⟩:=ih r
   exact ⟨n :: ns,.cons n t a,b.cons n⟩
 | swap x y l =>
  intro ks h
  cases h with
  | cons n t r =>
   cases r with
   | cons m u r=>exact ⟨m :: n :: _,.cons m u (.cons n t r),.swap _ _ _⟩
 | trans _ _ i1 i2 =>
  intro ks h
  obtain ⟨ns,a,b⟩:=i1 h
  obtain ⟨ms,c,d⟩:=i2 a
  exact ⟨ms,c,d.trans b⟩
theorem ElX.ints {ks:List Int} {es:Array (Int×Value)} (h:ElX ks es):IntsAre (es.toList.map (·.2)) ks:=by
 unfold ElX at h
 generalize es.toList=l at h
 induction h with
 | nil=>exact .nil
 | cons a r ih =>
  obtain ⟨_,t,rfl⟩:=a
  exact .cons _ t ih
section
variable {prog:Program} {w:World} {A:Around} {E:Value→Shared→Prop} {s:Shared} {S:Addr} {es:Array (Int×Value)} {ep:Nat} {pl:List Nat}
theorem hint_X {r:Addr} {Q:Bool→Shared→Prop} (hT:s.TypeIs (.ref r) "set") (h:Q false s):wpAny (model prog w) A (Builtin.List.listLengthHint (.ref r)) Q E s:=by
 unfold Builtin.List.listLengthHint
 refine wpAny_bind (wpAny_specialOf hT PySem.F.slot_set_len.lookup ?_)
 generalize hid:("set.__len__":String)=id0
 wp_delta
 rw [show splitId id0=some ("set","__len__") from by subst hid;decide +kernel]
 subst hid
 refine wpAny_bind (wpAny_isInstance (T := "set") (b:=true) hT (by rw [isSubtype_type];kernel_rfl) ?_)
 refine wpAny_ite_split (fun hab=>absurd hab (by decide)) (fun _=>?_)
 refine wpAny_ite_split (fun _=>?_) (fun hab=>absurd (by decide +kernel) hab)
 refine wpAny_bind (wpAny_typeOf hT ?_)
 exact wpAny_pure h
theorem pyIter_sit {I:Addr} {Q:Value→Shared→Prop} (hT:s.TypeIs (.ref I) "set_iterator") (h:Q (.ref I) s):wpAny (model prog w) A (pyIter (.ref I)) Q E s:=by
 refine wpAny_pyIter_slot hT setit_iter_slot (wpAny_call_entry setit_iter_slot hT setit_iter_entry ?_ (setit_iter_args _))
 show wpAny _ _ (ret (.ref I)) _ _ s
 exact wpAny_pure ⟨_,rfl,"set_iterator",_,hT,setit_next_slot.lookup,h⟩
theorem walk_X (hh:A.handled=none) (I:Addr) (hne:S≠I) (hf:(tbX (ledOf w) pl).fits es.size=true) (hpl:okX pl=true) (hpn:pl.length=es.size) (hn:es.size≤3) :
  Walks prog w A I [I,S] [I] es.size (fun i v=>(ordX w S ep es)[i]?=some v) (fun i h=>SitX w S es ep pl I i h) where
 sub:=fun b hb=>by simp at hb;simp [hb]
 frame:=fun _ _ _ st hk=>⟨hk S (by simp) _ st.set,let ⟨slot,a,b⟩:=st.it;⟨slot,hk I (by simp) _ a,b⟩⟩
 item:=fun i s Q E hi st hQ=>by
  have hi':i < (ordX w S ep es).size:=by rw [ordX_size];exact hi
  refine next_X st (Ne.symm hne) hf hpl hpn hn (Array.getElem?_eq_getElem hi') fun h' st' hk=>?_
  exact hQ _ h' s.toks (Array.getElem?_eq_getElem hi') st' fun b o hb e=>hk b o (fun h=>hb (by simp [h])) e
 done:=fun s Q E st hQ=>end_X hh st (Ne.symm hne) hf hpl hpn hn fun h' he'=>hQ h' s.toks fun b o hb e=>he' b o (fun h=>hb (by simp [h])) e
 self:=fun _ _ _ _ st hQ=>pyIter_sit (let ⟨_,a,_⟩:=st.it;⟨_,a,rfl⟩) hQ
theorem kdl_X (hf:(tbX (ledOf w) pl).fits es.size=true) (hpl:okX pl=true) (hpn:pl.length=es.size) (hn:es.size≤3) :
  KdlSrc prog w "set" S S es.size (fun i v=>(ordX w S ep es)[i]?=some v) (fun h=>h.get? S=some (setObjX (ledOf w) es ep pl)) where
 type:=fun _ hm=>⟨_,hm,rfl⟩
 there:=fun _ hm=>⟨Heap.lt_size hm,Heap.lt_size hm⟩
 keep:=fun _ _ hm hk=>hk S (.inl rfl) _ hm
 notList:=by decide
 notTuple:=by decide
 hint:=fun _ _ _ _ hm hq=>hint_X ⟨_,hm,rfl⟩ hq
 iter:=fun _ s hh hm=>⟨_,_,(fun _ _ hq=>iter_X hm hf hq),walk_X hh _ (Nat.ne_of_lt (Heap.lt_size hm)) hf hpl hpn hn,⟨Heap.get?_push_of_some _ hm,0,Heap.get?_push_size _ rfl,fun _=>by
  have:=bel_X hpl (om184 hpn hn)
  unfold bel1 at this
  rw [Bool.and_eq_true] at this
  simpa using this.1⟩⟩
theorem collect_code {R:Result→Shared→Prop} (hh:A.handled=none) (hS:s.heap.get? S=some (setObjX (ledOf w) es ep pl)) (hf:(tbX (ledOf w) pl).fits es.size=true) (hpl:okX pl=true) (hpn:pl.length=es.size) (hn:es.size≤3)
  (h:∀ h' tk acc' c' a,(∀ b o,s.heap.get? b=some o→h'.get? b=some o)→h'.get? a=some { cls:=.type "list",dict:=none,data:=.seq acc' c',slots:=#[] }→ItemsOf (fun i v=>(ordX w S ep es)[i]?=some v) acc' es.size→R (.ok (.ret (.ref a))) { s with heap:=h',toks:=tk }) :
  codeAny (model prog w) A (.builtin "proto.collect" ⟨[.ref S],[]⟩) R s:=by
 have hlt:=Heap.lt_size hS
 refine codeAny_builtin PySem.F.entry_proto_collect ?_
 rw [Around.under_plainId PySem.F.plain_proto_collect _]
 show wpAny _ A.in1 (newList [] >>= fun l=>again (.builtin "list.__iadd__" ⟨[l,.ref S],[]⟩)) _ _ s
 refine wpAny_bind (wpAny_newObj_type ?_)
 refine wpAny_pure ⟨plainId_quiet PySem.F.plain_list_iadd _,codeAny_builtin PySem.F.entry_list_iadd ?_⟩
 rw [Around.under_plainId PySem.F.plain_list_iadd _]
 have hN:(s.heap.push { cls:=.type "list",data:=.seq ([]:List Value).toArray }).get? s.heap.objs.size=some { cls:=.type "list",data:=.seq ([]:List Value).toArray }:=Heap.get?_push_size _ rfl
 show wpAny _ A.in1 (Builtin.List.listExtendWith (.ref s.heap.objs.size) (.ref S) (.ref s.heap.objs.size)) _ _ _
 exact kdl_extend (R:=R) (s:={ s with heap:=s.heap.push { cls:=.type "list",data:=.seq ([]:List Value).toArray } }) (kdl_X (prog:=prog) (w:=w) (S:=S) (es:=es) (ep:=ep) (pl:=pl) hf hpl hpn hn) hh (Heap.get?_push_of_some _ hS) s.heap.objs.size (Nat.ne_of_gt hlt) (Nat.ne_of_gt hlt) _ 0 hN (fun h' tk acc' c' hk hS' hacc=>h h' tk acc' c' _ (fun b o e=>hk b o (Nat.ne_of_lt (Heap.lt_size e)) (Heap.get?_push_of_some _ e)) hS' hacc) (by rw [sizeLine_eq];exact om213 hpn hn)
theorem collect_X {Q:List Value→Shared→Prop} (hh:A.handled=none) (hS:s.heap.get? S=some (setObjX (ledOf w) es ep pl)) (hf:(tbX (ledOf w) pl).fits es.size=true) (hpl:okX pl=true) (hpn:pl.length=es.size) (hn:es.size≤3)
  (h:∀ h' tk (vs:List Value),(∀ b o,s.heap.get? b=some o→h'.get? b=some o)→vs.length=es.size→(∀ (j:Nat) (v:Value),vs[j]?=some v→(ordX w S ep es)[j]?=some v)→Q vs { s with heap:=h',toks:=tk }) :
  wpAny (model prog w) A (collect (.ref S)) Q E s:=by
 unfold collect
 refine wpAny_bind (wpAny_runValue (collect_code hh hS hf hpl hpn hn fun h' tk acc' c' a hk hS' hacc=>?_))
 show wpAny _ A (load a >>= _) _ _ _
 refine wpAny_bind (wpAny_load hS' ?_)
 exact wpAny_pure (h h' tk acc'.toList hk (by rw [Array.length_toList];exact hacc.1) fun j v e=>hacc.2 j v (by rw [←Array.getElem?_toList];exact e))
theorem sorted_X {ks:List Int} {Q:Value→Shared→Prop} (hh:A.handled=none) (hS:s.heap.get? S=some (setObjX (ledOf w) es ep pl)) (hel:ElX ks es) (hpl:okX pl=true) (hpn:pl.length=ks.length) (hn:ks.length≤3)
  (h:∀ h' tk a n (out:Array Value) (ns':List Int),s.heap.get? a=none→(∀ b o,s.heap.get? b=some o→h'.get? b=some o)→h'.get? a=some (listObj out.toList n)→IntsAre out.toList ns'→ns'.Perm ks→ns'.Pairwise (·≤·)→Q (.ref a) { s with heap:=h',toks:=tk }) :
  wpAny (model prog w) A (call (.builtin "sorted") [.ref S]) Q E s:=by
 have hsz:=hel.len
 have hf:(tbX (ledOf w) pl).fits es.size=true:=by rw [hsz];exact fits_X hpn hn
 refine Calls.call_function_entry kind_sorted plain_sorted entry_sorted (args_sorted1 _) ?_
 unfold Builtin.«sorted»
 refine wpAny_bind (m:=checkCount "sorted" 1 1 _) (wpAny_pure ?_)
 refine wpAny_bind (collect_X hh hS hf hpl (om240 hpn hsz) (om254 hpn hn hsz) fun h' tk vs hk hl hv=>?_)
 have evs:vs=(ordX w S ep es).toList:=List.ext_getElem? fun j=>by
  by_cases q:j < vs.length
  ·rw [List.getElem?_eq_getElem q,Array.getElem?_toList]
   exact (hv j _ (List.getElem?_eq_getElem q)).symm
  ·rw [List.getElem?_eq_none (om226 q),List.getElem?_eq_none (by rw [Array.length_toList,ordX_size];exact om269 hl q)]
 have hperm:vs.Perm (es.toList.map (·.2)):=evs▸ordX_perm w S ep es
 obtain ⟨ns,hI,hp⟩:=intsAre_perm hperm.symm hel.ints
 refine wpAny_bind (wpAny_newList ?_)
 have hoL:(h'.push (seqObj "list" vs.toArray 0)).get? h'.objs.size=some (seqObj "list" vs.toArray 0):=Heap.get?_push_size _ rfl
 refine wpAny_bind (wpAny_holding (wpAny_call_entry slot_list_sort ⟨_,hoL,rfl⟩ entry_list_sort (list_sort_tree hoL hI (om295 hpn hn hsz hl) fun out ns' a1 a2 a3=>⟨_,rfl,?_⟩) (args_list_sort _)))
 refine wpAny_pure ⟨_,rfl,?_⟩
 obtain ⟨ep',ge⟩:=sortedHeap_at (out:=out) hoL
 refine h _ tk h'.objs.size ep' out ns' ?_ (fun b o e=>?_) ge a1 (a2.trans hp) a3
 ·cases q:s.heap.get? h'.objs.size with
  | none=>rfl
  | some o=>exact absurd (Heap.lt_size (hk _ _ q)) (Nat.lt_irrefl _)
 ·have hb:=Heap.lt_size (hk b o e)
  rw [sortedHeap_old (Nat.ne_of_lt hb) (by rw [size_push'];exact Nat.lt_succ_of_lt hb)]
  exact Heap.get?_push_of_some _ (hk b o e)
end
end Mine
end
section
namespace Mine
inductive IsSX (w:World) (ob:Obj) (ns:List Int):Prop
 | mk (es:Array (Int×Value)) (ep:Nat) (pl:List Nat) (ks:List Int) (e:ob=setObjX (ledOf w) es ep pl) (el:ElX ks es) (ok:okX pl=true) (l:pl.length=ks.length) (l3:ks.length≤3) (nd:ks.Nodup) (m:∀ x,x∈ks↔x∈ns):IsSX w ob ns
section
variable {c:Cfg} {A:Around} {σ:Sig} {Q:SV→Sig→Prop}
theorem C_setX {n:Nat} {x:SV} {ns:List Int} (R:Rm n A) (hx:AsList σ x (intsL ns)) (hr:∀ x∈ns,7≤x∧x < 55) (h3:∀ ks:List Int,ks.Nodup→(∀ x∈ks,x∈ns)→ks.length≤3)
  (h:∀ ob,IsSX c.w ob ns→Q (.o ob) σ):CallT c A (.type "set") [x] σ Q:=.mk fun F s E vs H r=>by
 cases r with
 | cons r1 r =>
 cases r
 obtain ⟨l,ws,n',rfl,g,p⟩:=hx.get H r1
 refine call_set_X R.hh (isL g) (ints_are p) hr h3 fun h' tk ks hS hn hm hk=>?_
 obtain ⟨es,ep,pl,ho,hel,hpl,hpn,hl⟩:=hS
 have hf:=get_fresh s.heap (Nat.le_refl _)
 obtain ⟨l4,S4,X4⟩:=H.newF (h':=h') (tk:=tk) hf (fun b o e=>hk b o (Heap.lt_size e) e) ho
 exact ⟨_,σ,.o _,⟨_,rfl,updF_self ..⟩,S4,X4,h _ ⟨es,ep,pl,ks,rfl,hel,hpl,hpn,hl,hn,hm⟩⟩
theorem O_sortedX {n:Nat} {ob:Obj} {ns:List Int} (R:Rm n A) (hx:IsSX c.w ob ns) (h:∀ ns':List Int,ns'.Nodup→ns'.Pairwise (·≤·)→(∀ x,x∈ns'↔x∈ns)→Q (.d (.list (ns'.map PyData.int))) σ):CallT c A (.builtin "sorted") [.o ob] σ Q:=.mk fun F s E vs H r=>by
 cases r with
 | cons r1 r =>
 cases r
 obtain ⟨S,rfl,hF⟩:=r1
 obtain ⟨es,ep,pl,ks,rfl,hel,hpl,hpn,hl,hn,hm⟩:=hx
 refine sorted_X R.hh (H.fz _ _ hF) hel hpl hpn hl fun h' tk a n out ns' ha hk ge a1 a2 a3=>?_
 obtain ⟨l4,S4,X4⟩:=H.newF (h':=h') (tk:=tk) ha hk ge
 refine ⟨_,σ,.d (.list (ns'.map PyData.int)),?_,S4,X4,h ns' (a2.nodup_iff.mpr hn) a3 fun x=>(a2.mem_iff).trans (hm x)⟩
 simp only [VRel,RD]
 refine ⟨_,out.toList,n,rfl,updF_self ..,(rds_of_paired ?_).mono l4⟩
 have:=ints_of (F:=F) a1
 simpa [Function.comp_def] using this
theorem O_lenS {a:Addr} {S:Int→Bool} {k:Nat} (ha:σ a=some (.setI S k)) (hk:k≤1000) (h:Q (.d (.int k)) σ):CallT c A (.builtin "len") [.ref a] σ Q:=.mk fun F s E vs H r=>by
 cases r with
 | cons r1 r =>
 cases r
 have:_=Value.ref a:=r1
 subst this
 obtain ⟨o,ho,hex,es,ep,t,hd,_,_,hn,hf⟩:=Heap.SetOf.objOf (H.tr a _ ha).2
 subst hn
 exact call_len_set ho hex hd hf (om94 hk) (post_int H _ _ _ h)
end
theorem firstMet_nodup (val:Nat→Int):∀ i,(firstMet val i).Nodup
 | 0=>List.nodup_nil
 | i+1=>by
  rw [firstMet_succ];unfold step_dedup
  have ih:=firstMet_nodup val i
  split
  ·exact ih
  ·rename_i q
   refine List.nodup_append.mpr ⟨ih,by simp,fun a ha b hb e=>?_⟩
   rw [List.mem_singleton] at hb
   subst hb;subst e
   exact q (List.any_eq_true.mpr ⟨_,ha,by simp⟩)
theorem firstMet_mem (ns:List Int) (k:Int):k∈firstMet (fun i=>ns.getD i 0) ns.length↔k∈ns:=by
 have h:=firstMet_any (fun i=>ns.getD i 0) ns.length k
 have e:(List.range ns.length).map (fun i=>ns.getD i 0)=ns:=by
  refine List.ext_getElem (by simp) fun i h1 h2=>?_
  simp [List.getD_eq_getElem?_getD,List.getElem?_eq_getElem h2]
 rw [e] at h
 constructor
 ·intro hk
  have:(firstMet (fun i=>ns.getD i 0) ns.length).any (· == k)=true:=List.any_eq_true.mpr ⟨k,hk,by simp⟩
  rw [h] at this
  obtain ⟨x,hx,e⟩:=List.any_eq_true.mp this
  simp at e;subst e;exact hx
 ·intro hk
  have:ns.any (· == k)=true:=List.any_eq_true.mpr ⟨k,hk,by simp⟩
  rw [←h] at this
  obtain ⟨x,hx,e⟩:=List.any_eq_true.mp this
  simp at e;subst e;exact hx
theorem firstMet_len {ns ks:List Int} (hk:ks.Nodup) (h:∀ x,x∈ks↔x∈ns):(firstMet (fun i=>ns.getD i 0) ns.length).length=ks.length:=by
 refine List.Perm.length_eq ((List.perm_ext_iff_of_nodup (firstMet_nodup _ _) hk).mpr fun x=>(firstMet_mem ns x).trans (h x).symm)
end Mine
end
section
namespace Mine
section
variable {c:Cfg} {A:Around} {F F' F1:FM} {σ σ' σ1:Sig} {s s' s1 s2:Shared} {env:Env} {I:Addr} {fp wr:List Addr} {xs:List SV} {W:Nat→Heap→Prop} {target:Expr}
theorem t1_mono {α β:Type} {Rv:FM→β→α→Prop} {k:Value→Sem α} {x:SV} {Q Q':β→Sig→Prop} (h:T1 c Rv A k x σ Q) (m:∀ x σ',Q x σ'→Q' x σ'):T1 c Rv A k x σ Q' :=
 .mk fun F s E v H r=>wpAny_mono (h.run F s E v H r) (fun _ _ p=>p.mono m) fun _ _ e=>e
theorem tests_mono {cenv:Env}:∀ {ifs:List Expr} {σ:Sig} {Q Q':Bool→Sig→Prop},TTests c A cenv ifs σ Q→(∀ b σ',Q b σ'→Q' b σ')→TTests c A cenv ifs σ Q'
 | [],_,_,_,h,k=>k _ _ h
 | _ :: _,_,_,_,h,k=>TG.mono h fun b σ1 q=>⟨fun hb=>tests_mono (q.1 hb) k,fun hb=>k _ _ (q.2 hb)⟩
theorem compJ {cd:Code} {R:Result→Shared→Prop} {ifs:List Expr} {cenv:Env} {p:Pos} {Em:Sem Unit} (J:Nat→Sig→Prop)
  (hq:cd.quiet=true)
  (hden:∀ (P:Fin→Shared→Prop) (E:Value→Shared→Prop) s,wpAny c.M A (standAt p >>= fun _=>pyNext (.ref I) >>= fun r=>match r with
   | none=>pure (.done .next)
   | some v=>letOwnedTupleGo target (.ref I) v >>= fun _=>assign target cenv v >>= fun _=>testLoop ifs true cenv >>= fun ok=>(if ok=true then Em >>= fun _=>again cd else again cd)) P (fun _ _=>False) s→wpAny c.M (A.under cd) (c.M.den cd) P E s)
  (K:Itr c A target I fp wr xs F1 W) (hd:∀ b∈wr,s1.heap.get? b=none) (B0:Btw c fp wr W F1 σ1 s1 0 F σ s2) (j0:J 0 σ)
  (step:∀ i y σ',xs[i]?=some y→J i σ'→T1 c RU A (assign target cenv) y σ' (fun _ σ2=>TTests c A cenv ifs σ2 (fun b σ3=>(b=false→J (i+1) σ3)∧(b=true→TU c A Em σ3 (J (i+1))))))
  (hR:∀ F σ s',St c F σ s'→Ext F1 σ1 s1 F σ s'→J xs.length σ→R (.ok .next) s'):codeAny c.M A cd R s2:=by
 refine codeAny_loop hq (BJ c fp wr W F1 σ1 s1 xs J) ?_ (xs.length+1) ⟨0,F,σ,B0,j0,Nat.zero_le _,rfl⟩
 rintro n s ⟨i,F,σ,B,j,hi,rfl⟩
 refine hden _ _ _ (wpAny_bind (wpAny_standAt (wpAny_bind ?_)))
 by_cases hlt:i < xs.length
 ·refine wpAny_mono (K.next (N:=fun _=>False) (y:=xs[i]) (Q:=fun v s'=>∃ F',VRel F' xs[i] v∧Btw c fp wr W F1 σ1 s1 (i+1) F' σ s') (E:=fun _ _=>False) (by simp [hlt]) B (.refl _) hd fun F' v s' rv B1=>⟨F',rv,B1⟩) (fun r s' h=>?_) fun _ _ e=>e
  cases r with
  | none=>exact h.elim
  | some v =>
   refine wpAny_bind (wpAny_mono h (fun _ s3 h3=>?_) fun _ _ e=>e)
   obtain ⟨F3,rv,B1⟩:=h3
   refine wpAny_bind (wpAny_mono ((step i xs[i] σ (by simp [hlt]) j).run F3 s3 _ v B1.st rv) (fun _ s4 p4=>?_) fun _ _ e=>e)
   obtain ⟨F4,σ4,_,_,H4,X4,q4⟩:=p4
   have B4:=B1.step K X4 H4
   refine wpAny_bind (wpAny_mono ((tests_wp ifs σ4 _ q4).run F4 s4 _ H4) (fun ok s5 p5=>?_) fun _ _ e=>e)
   obtain ⟨F5,σ5,b,rb,H5,X5,q5⟩:=p5
   have rb:ok=b:=rb.symm
   subst rb
   have B5:=B4.step K X5 H5
   cases ok with
   | false =>
    rw [if_neg (by simp)]
    exact wpAny_pure ⟨rfl,xs.length+1 - (i+1),om204 hlt,i+1,F5,σ5,B5,q5.1 rfl,hlt,rfl⟩
   | true =>
    rw [if_pos rfl]
    refine wpAny_bind (wpAny_mono ((q5.2 rfl).run F5 s5 _ H5) (fun _ s6 p6=>?_) fun _ _ e=>e)
    obtain ⟨F6,σ6,_,_,H6,X6,q6⟩:=p6
    exact wpAny_pure ⟨rfl,xs.length+1 - (i+1),om204 hlt,i+1,F6,σ6,B5.step K X6 H6,q6,hlt,rfl⟩
 ·have he:i=xs.length:=by exact om201 hi hlt
  subst he
  refine wpAny_mono (K.over (N:=fun s'=>R (.ok .next) s') (S:=fun _ _=>False) (E:=fun _ _=>False) B hd fun s' H' X'=>hR F σ s' H' X' j) (fun r s' h=>?_) fun _ _ e=>e
  cases r with
  | none=>exact wpAny_pure h
  | some v=>exact h.elim
theorem compTurn_in (elt t0 i0 t1 i1:Expr) (f0 f1:List Expr) (scope:Scope) (pos:Pos) (it acc:Value) (env:Env) :
  compTurn (.ListComp elt [⟨t0,i0,f0,0⟩,⟨t1,i1,f1,0⟩] scope pos) 1 it acc env=(standAt i1.pos >>= fun _=>pyNext it >>= fun r=>match r with
   | none=>pure (.done .next)
   | some v=>letOwnedTupleGo t1 it v >>= fun _=>assign t1 env v >>= fun _=>testLoop f1 true env >>= fun ok=>(if ok=true then
     (eval elt env >>= fun x=>call (.builtin "list.append") [acc,x] >>= fun _=>pure ()) >>= fun _=>again (.compLoop (.ListComp elt [⟨t0,i0,f0,0⟩,⟨t1,i1,f1,0⟩] scope pos) 1 it acc env)
     else again (.compLoop (.ListComp elt [⟨t0,i0,f0,0⟩,⟨t1,i1,f1,0⟩] scope pos) 1 it acc env))):=by rfl
theorem compTurn_out (elt t0 i0 t1 i1:Expr) (f0 f1:List Expr) (scope:Scope) (pos:Pos) (it acc:Value) (env:Env) :
  compTurn (.ListComp elt [⟨t0,i0,f0,0⟩,⟨t1,i1,f1,0⟩] scope pos) 0 it acc env=(standAt i0.pos >>= fun _=>pyNext it >>= fun r=>match r with
   | none=>pure (.done .next)
   | some v=>letOwnedTupleGo t0 it v >>= fun _=>assign t0 env v >>= fun _=>testLoop f0 true env >>= fun ok=>(if ok=true then
     (eval i1 env >>= fun x=>standAt i1.pos >>= fun _=>foldedSetIterable i1 env x >>= fun x=>holding [x] (pyIter x) >>= fun it'=>runOwn (.compStart (.ListComp elt [⟨t0,i0,f0,0⟩,⟨t1,i1,f1,0⟩] scope pos) 1 it' acc env) env >>= fun _=>again (.compLoop (.ListComp elt [⟨t0,i0,f0,0⟩,⟨t1,i1,f1,0⟩] scope pos) 0 it acc env))
     else again (.compLoop (.ListComp elt [⟨t0,i0,f0,0⟩,⟨t1,i1,f1,0⟩] scope pos) 0 it acc env))):=by rfl
theorem compTurn_dictE (kx vx target iter:Expr) (ifs:List Expr) (scope:Scope) (pos:Pos) (it:Value) (D:Addr) (env:Env) :
  compTurn (.DictComp kx vx [⟨target,iter,ifs,0⟩] scope pos) 0 it (.ref D) env=(standAt iter.pos >>= fun _=>pyNext it >>= fun r=>match r with
   | none=>pure (.done .next)
   | some v=>letOwnedTupleGo target it v >>= fun _=>assign target env v >>= fun _=>testLoop ifs true env >>= fun ok=>(if ok=true then
     (eval kx env >>= fun kv=>holding [kv] (eval vx env) >>= fun vv=>standAt { kx.pos with endLine:=vx.pos.endLine,endCol:=vx.pos.endCol } >>= fun _=>holding [kv,vv] (dictSet D kv vv)) >>= fun _=>again (.compLoop (.DictComp kx vx [⟨target,iter,ifs,0⟩] scope pos) 0 it (.ref D) env)
     else again (.compLoop (.DictComp kx vx [⟨target,iter,ifs,0⟩] scope pos) 0 it (.ref D) env))):=by rfl
theorem comp_out2 {σ2:Sig} {C:Addr} {m:Str→Option SV} {h':Heap} (H:St c F (fr σ2 C [] m) s) (X:Ext F1 σ1 s1 F (fr σ2 C [] m) s) (hC:s1.heap.get? C=none) (hσ:σ2 C=none) (hs:Heap.SameBut C s.heap h') :
  St c F σ2 { s with heap:=h' }∧Ext F1 σ1 s1 F σ2 { s with heap:=h' }:=by
 have hFC:F C=none:=(H.tr C _ (fr_self ..)).1
 have hfr:∀ b,b≠C→fr σ2 C [] m b=σ2 b:=fun b hb=>fr_other hb (fun _ h=>by cases h)
 refine ⟨⟨H.base,fun b o e=>(hs.2 b (fun q=>by rw [q,hFC] at e;cases e)).trans (H.fz b o e),fun b o e=>?_⟩,⟨X.fle,fun b o q e=>?_,fun b o e=>?_,fun b o e q=>?_,by rw [X.rest]⟩⟩
 ·have hb:b≠C:=fun q=>by rw [q,hσ] at e;cases e
  have:=H.tr b o (by rw [hfr b hb];exact e)
  exact ⟨this.1,this.2.at fun ob g=>(hs.2 b hb).trans g⟩
 ·have hb:b≠C:=fun q=>by rw [q,hC] at e;cases e
  exact (hs.2 b hb).trans (X.keep b o q e)
 ·have hb:b≠C:=fun q=>by rw [q,hC] at e;cases e
  obtain ⟨o',e'⟩:=X.alive b o e
  exact ⟨o',(hs.2 b hb).trans e'⟩
 ·have hb:b≠C:=fun q=>by rw [q,hC] at e;cases e
  have:=X.prov b o e q
  exact ⟨(hfr b hb).symm.trans this.1,this.2⟩
theorem T_appE {elt:Expr} {D:Addr} {Q:Sig→Prop} (h:TV c A (eval elt env) σ (fun z σ1=>∃ ws,σ1 D=some (.list ws)∧ws.length≤1000∧Q (upd σ1 D (some (.list (ws++[z])))))) :
  TU c A (eval elt env >>= fun x=>call (.builtin "list.append") [.ref D,x] >>= fun _=>pure ()) σ Q:=.mk fun F s E H =>
 wpAny_bind (h.wp H fun v s1 F1 σ1 z r1 H1 X1 ⟨ws,hD,hz,q⟩=>by
  have T:CallT c A (.builtin "list.append") [.ref D,z] σ1 (fun _ σ2=>Q σ2):=O_append hD hz q
  refine wpAny_bind (wpAny_mono (T.run F1 s1 E [.ref D,v] H1 (.cons rfl (.cons r1 .nil))) (fun _ s2 p=>?_) fun _ _ e=>e)
  obtain ⟨F2,σ2,_,_,H2,X2,q2⟩:=p
  exact wpAny_pure ⟨F2,σ2,(),trivial,H2,X1.trans X2,q2⟩)
theorem T_storE {kx vx:Expr} {D:Addr} {Q:Sig→Prop} (h:TV c A (eval kx env) σ (fun k σ1=>TV c A (eval vx env) σ1 (fun v σ2=>∃ k' kvs,k=.d (.int k')∧σ2 D=some (.dictI kvs)∧kvs.length≤1000∧Q (upd σ2 D (some (.dictI (sset kvs k' v))))))) (p:Pos) :
  TU c A (eval kx env >>= fun kv=>holding [kv] (eval vx env) >>= fun vv=>standAt p >>= fun _=>holding [kv,vv] (dictSet D kv vv)) σ Q:=.mk fun F s E H =>
 wpAny_bind (h.wp H fun kv s1 F1 σ1 k r1 H1 X1 q1=>wpAny_bind (wpAny_holding (q1.wp H1 fun vv s2 F2 σ2 v r2 H2 X2 qq=>by
  obtain ⟨k',kvs,ek,hD,hz,q⟩:=qq
  subst ek
  obtain ⟨_,nm,kvs',DD,pp⟩:=H2.tr D _ hD
  refine wpAny_bind (wpAny_standAt (wpAny_holding (wpAny_dictSet_pairs (knd:=intKind c.prog c.w) (KeyR.int F2 kv (r1.mono X2.fle)) DD (fun h' hd hs=>?_) (by rw [←pp.length,sizeLine_eq];omega))))
  have S:=H2.set (o:=.dictI (sset kvs k' v)) (h':=h') (tk:=s2.toks+1) hD (fun b o hb e=>(hs.2 b hb).trans e) ⟨nm,_,hd,paired_sset r2 pp⟩
  exact ⟨F2,_,(),trivial,S.1,(X1.trans X2).trans S.2,q⟩)))
noncomputable def In1 (c:Cfg) (A:Around) (t1:Expr) (f1:List Expr) (elt:Expr) (cenv:Env) (D:Addr) (z:SV) (σ4:Sig) (P:Sig→Prop):Prop :=
 ∃ (ys:List SV) (J1:Nat→Sig→Prop),ItOf c A t1 z σ4 ys∧J1 0 σ4∧(∀ k y σ',ys[k]?=some y→J1 k σ'→T1 c RU A (assign t1 cenv) y σ' (fun _ σ5=>TTests c A cenv f1 σ5 (fun b σ6=>(b=false→J1 (k+1) σ6) ∧
  (b=true→TV c A (eval elt cenv) σ6 (fun v σ7=>∃ ws,σ7 D=some (.list ws)∧ws.length≤1000∧J1 (k+1) (upd σ7 D (some (.list (ws++[v])))))))))∧∀ σ',J1 ys.length σ'→P σ'
theorem T_inner {elt t0 i0 t1 i1:Expr} {f0 f1:List Expr} {scope:Scope} {pos:Pos} {D:Addr} {P:Sig→Prop} (h:TV c A (eval i1 env) σ (fun z σ4=>In1 c A t1 f1 elt env D z σ4 P)) (hs:∀ x,foldedSetIterable i1 env x=pure x) :
  TU c A (eval i1 env >>= fun x=>standAt i1.pos >>= fun _=>foldedSetIterable i1 env x >>= fun x=>holding [x] (pyIter x) >>= fun it'=>runOwn (.compStart (.ListComp elt [⟨t0,i0,f0,0⟩,⟨t1,i1,f1,0⟩] scope pos) 1 it' (.ref D) env) env >>= fun _=>pure ()) σ P:=.mk fun F0 s0 E H0=>by
 refine wpAny_bind (h.wp H0 fun v s1 F1 σ1 z r1 H1 X1 q1=>wpAny_bind (wpAny_standAt (wpAny_bind (wpAny_of_eq (hs v) (wpAny_bind (wpAny_holding ?_))))))
 obtain ⟨ys,J1,hit,j0,step,fin⟩:=q1
 refine hit F1 s1 E v _ H1 r1 fun I fp wr W h' tk K hw hd hq hk=>?_
 have B0:=Btw.start (tk:=tk) H1 K hw hd hq hk
 refine wpAny_bind (wpAny_runOwn ?_)
 have loop:codeAny c.M A (.compLoop (.ListComp elt [⟨t0,i0,f0,0⟩,⟨t1,i1,f1,0⟩] scope pos) 1 (.ref I) (.ref D) env)
   (fun r s'=>match r with | .ok f=>wpAny c.M A (pure ()) (Post c RU F0 σ s0 (fun _ σ'=>P σ')) E s' | .error e=>cameBackBy c.M A env E e s') { s1 with heap:=h',toks:=tk }:=by
  refine compJ (ifs:=f1) (cenv:=env) (p:=i1.pos) (Em:=eval elt env >>= fun x=>call (.builtin "list.append") [.ref D,x] >>= fun _=>pure ()) J1 rfl (fun P E s h=>?_) K hd B0 j0 (fun k y σ' hy hj=>?_) (fun F σ' s' H' X' hj=>?_)
  ·show wpAny _ A ((compTurn (.ListComp elt [⟨t0,i0,f0,0⟩,⟨t1,i1,f1,0⟩] scope pos) 1 (.ref I) (.ref D) env).onRaise (fun x=>do noteFrame x env;theTreesLotGoes x)) _ _ s
   refine wpAny_noted ?_
   rw [compTurn_in]
   exact wpAny_mono h (fun _ _ q=>q) fun _ _ f=>f.elim
  ·exact t1_mono (step k y σ' hy hj) fun _ σ5 q=>tests_mono q fun b σ6 w=>⟨w.1,fun hb=>T_appE (w.2 hb)⟩
  ·exact wpAny_pure ⟨F,σ',(),trivial,H',X1.trans X',fin σ' hj⟩
 refine codeAny_of_tree ?_
 show wpAny _ A ((compStart (.ListComp elt [⟨t0,i0,f0,0⟩,⟨t1,i1,f1,0⟩] scope pos) 1 (.ref I) (.ref D) env).onRaise (fun x=>do noteFrame x env;standAt theWindowsPlace)) _ _ _
 refine wpAny_notedAt ?_
 unfold compStart
 show wpAny _ _ (ask >>= _) _ _ _
 refine wpAny_bind (wpAny_askSetting (wpAny_ite ?_))
 split
 ·first
   | exact wpAny_bind (wpAny_pure (wpAny_pure (And.intro rfl loop)))
   | exact wpAny_pure (And.intro rfl loop)
 ·have hself:=K.self { s1 with heap:=h',toks:=tk } (fun it' s'=>codeAny c.M A (.compLoop (.ListComp elt [⟨t0,i0,f0,0⟩,⟨t1,i1,f1,0⟩] scope pos) 1 it' (.ref D) env)
   (fun r s'=>match r with | .ok f=>wpAny c.M A (pure ()) (Post c RU F0 σ s0 (fun _ σ'=>P σ')) E s' | .error e=>cameBackBy c.M A env E e s') s') (notedBy c.M A env fun x s'=>cameBackBy c.M A env E x s') hw loop
  first
   | exact wpAny_bind (wpAny_rule (wpAny_bind (wpAny_standAt (wpAny_bind (wpAny_mono hself (fun it' s' h'=>wpAny_pure (And.intro rfl h')) fun _ _ x=>x)))))
   | (refine wpAny_bind (wpAny_rule ?_);show wpAny _ _ (standAt i1.pos >>= _) _ _ _;exact wpAny_bind (wpAny_standAt (wpAny_bind (wpAny_mono hself (fun it' s' h'=>wpAny_pure (And.intro rfl h')) fun _ _ x=>x))))
end
end Mine
end
section
namespace Mine
section
variable {c:Cfg} {A:Around} {σ:Sig} {env:Env}
theorem frame0 (σ:Sig) (C:Addr):upd σ C (some (.ns (hideC [] fun _=>none)))=fr σ C [] (fun _=>none):=by
 funext b
 by_cases q:b=C
 ·subst q;rw [upd_self,fr_self]
 ·rw [upd_ne _ _ q,fr_other q (fun _ h=>by cases h)]
theorem T_comp2 {t0 i0 t1 i1 elt:Expr} {f0 f1:List Expr} {scope:Scope} {pos:Pos} {cl:List (Str×Addr)} {Q:SV→Sig→Prop}
  (h:TV c A (eval i0 env) σ (fun x σ1=>∃ xs:List SV,ItOf c A t0 x σ1 xs∧∀ C D,σ1 C=none→σ1 D=none→D≠C→∃ J:Nat→Sig→Prop,J 0 (fr (upd σ1 D (some (.list []))) C [] (fun _=>none)) ∧
   (∀ i y σ',xs[i]?=some y→J i σ'→T1 c RU A (assign t0 (compEnvC scope cl C env)) y σ' (fun _ σ2=>TTests c A (compEnvC scope cl C env) f0 σ2 (fun b σ3=>(b=false→J (i+1) σ3) ∧
    (b=true→TV c A (eval i1 (compEnvC scope cl C env)) σ3 (fun z σ4=>In1 c A t1 f1 elt (compEnvC scope cl C env) D z σ4 (J (i+1))))))) ∧
   ∀ σ',J xs.length σ'→∃ σ2 m,σ'=fr σ2 C [] m∧σ2 C=none∧Q (.ref D) σ2))
  (hclos:autoParam (closureFor scope env=pure cl) aR) (hcell:autoParam (∀ y∈scope.names,y.2≠.cell) aD) (hkind:autoParam (scope.kind=.function) aR)
  (hnames:autoParam (∀ y∈scope.names,y.2=.local→scope.names.lookup y.1=some .local) aD) (hs:∀ x,foldedSetIterable i0 env x=pure x:=by exact fun _=>rfl)
  (hs1:∀ C x,foldedSetIterable i1 (compEnvC scope cl C env) x=pure x:=by exact fun _ _=>rfl) :
  TV c A (eval (.ListComp elt [⟨t0,i0,f0,0⟩,⟨t1,i1,f1,0⟩] scope pos) env) σ Q:=.mk fun F0 s0 E H0=>by
 rw [eval_ListComp]
 refine wpAny_comprehension_free (use:=none) rfl hs hclos hkind hnames (h.wp H0 fun v s1 F1 σ1 x r1 H1 X1 q1=>?_)
 obtain ⟨xs,hit,q1⟩:=q1
 refine hit F1 s1 E v _ H1 r1 fun I fp wr W h' tk K hw hd hq hk=>?_
 have B0:=Btw.start (tk:=tk) H1 K hw hd hq hk
 have hD1:∀ a,h'.objs.size≤a→s1.heap.get? a=none:=fun a ha=>by
  cases e:s1.heap.get? a with
  | none=>rfl
  | some o=>have z:a < h'.objs.size:=Heap.lt_size (hk a o e);omega
 have dead:∀ a,s1.heap.get? a=none→σ1 a=none:=fun a ha=>by
  cases e:σ1 a with
  | none=>rfl
  | some o=>obtain ⟨ob,gg⟩:=(H1.tr a o e).2.alive;rw [ha] at gg;cases gg
 refine wpAny_newObj_type (wpAny_newFunctionEnv hcell (by intro y hy;simp at hy) (fun h₁ hns₁ hsb₁=>?_) hkind)
 dsimp only at hns₁ hsb₁ ⊢
 have gD0:(h'.push { cls:=.type "list",dict:=none,data:=.seq ([]:List Value).toArray }).get? h'.objs.size=some (listObj [] 0):=Heap.get?_push_size _ rfl
 generalize hH2:h'.push { cls:=.type "list",dict:=none,data:=.seq ([]:List Value).toArray }=H2 at hns₁ hsb₁ gD0 ⊢
 have hCs:H2.objs.size=h'.objs.size+1:=by rw [←hH2,Heap.size_push]
 have hDC:h'.objs.size≠H2.objs.size:=by exact om206 hCs
 have old:∀ b o,h'.get? b=some o→H2.get? b=some o:=fun b o e=>hH2▸Heap.get?_push_of_some _ e
 have old1:∀ b o,H2.get? b=some o→h₁.get? b=some o:=fun b o e=>hsb₁.extBut b o (Nat.ne_of_lt (Heap.lt_size e)) (Heap.get?_push_of_some _ e)
 have hC1:=hD1 H2.objs.size (om207 hCs)
 have hDd:=hD1 h'.objs.size (Nat.le_refl _)
 have S1:=B0.st.new (h':=H2) (tk:=tk) (a:=h'.objs.size) (o:=.list []) (get_fresh _ (Nat.le_refl _)) old ⟨[],0,gD0,.nil⟩
 have S2:=S1.1.new (h':=h₁) (tk:=tk+([]:List (Str×Value)).length) (a:=H2.objs.size) (o:=.ns (hideC [] fun _=>none)) (get_fresh _ (Nat.le_refl _)) old1 ⟨_,hns₁,fun x v e=>by simp [hideC] at e⟩
 rw [frame0] at S2
 have B1:=(B0.step K S1.2 S1.1).step K S2.2 S2.1
 obtain ⟨J,j0,step,fin⟩:=q1 H2.objs.size h'.objs.size (dead _ hC1) (dead _ hDd) hDC
 have loop:∀ s₂:Shared,s₂={ s1 with heap:=h₁,toks:=tk+([]:List (Str×Value)).length } →
   codeAny c.M A (.compLoop (.ListComp elt [⟨t0,i0,f0,0⟩,⟨t1,i1,f1,0⟩] scope pos) 0 (.ref I) (.ref h'.objs.size) (compEnvC scope cl H2.objs.size env)) (compPost c.M A E none (Post c VRel F0 σ s0 Q) (.ref h'.objs.size) H2.objs.size) s₂:=by
  rintro s₂ rfl
  have K1:Itr c A t0 I fp wr xs F1 W:=K
  refine compJ (ifs:=f0) (cenv:=compEnvC scope cl H2.objs.size env) (p:=i0.pos)
   (Em:=eval i1 (compEnvC scope cl H2.objs.size env) >>= fun x=>standAt i1.pos >>= fun _=>foldedSetIterable i1 (compEnvC scope cl H2.objs.size env) x >>= fun x=>holding [x] (pyIter x) >>= fun it'=>runOwn (.compStart (.ListComp elt [⟨t0,i0,f0,0⟩,⟨t1,i1,f1,0⟩] scope pos) 1 it' (.ref h'.objs.size) (compEnvC scope cl H2.objs.size env)) (compEnvC scope cl H2.objs.size env) >>= fun _=>pure ())
   J rfl (fun P E s h=>?_) K hd B1 j0 (fun i y σ' hy hj=>?_) (fun F' σ' s' H' X' hj=>?_)
  ·show wpAny _ A ((compTurn (.ListComp elt [⟨t0,i0,f0,0⟩,⟨t1,i1,f1,0⟩] scope pos) 0 (.ref I) (.ref h'.objs.size) (compEnvC scope cl H2.objs.size env)).onRaise (fun x=>do noteFrame x (compEnvC scope cl H2.objs.size env);theTreesLotGoes x)) _ _ s
   refine wpAny_noted ?_
   rw [compTurn_out]
   refine wpAny_mono (Q:=P) (E:=fun _ _=>False) ?_ (fun _ _ q=>q) fun _ _ f=>f.elim
   simpa only [bind_assoc,pure_bind] using h
  ·exact t1_mono (step i y σ' hy hj) fun _ σ5 q=>tests_mono q fun b σ6 w=>⟨w.1,fun hb=>T_inner (w.2 hb) (hs1 _)⟩
  ·obtain ⟨σ2,m,rfl,hσ,q⟩:=fin σ' hj
   obtain ⟨_,m',hn,_⟩:=H'.tr _ _ (fr_self σ2 H2.objs.size [] m)
   refine ⟨m',hn,fun h'' hs''=>?_⟩
   obtain ⟨H'',X''⟩:=comp_out2 H' X' hC1 hσ hs''
   exact ⟨F',σ2,.ref h'.objs.size,rfl,H'',X1.trans X'',q⟩
 exact codeAny_compStart_list (loop _ rfl) (K.self _ _ _ (K.frame 0 _ _ hw fun b hb o e=>old1 b o (old b o e)) (loop _ rfl))
theorem T_dcomp {t0 i0 kx vx:Expr} {f0:List Expr} {scope:Scope} {pos:Pos} {cl:List (Str×Addr)} {Q:SV→Sig→Prop}
  (h:TV c A (eval i0 env) σ (fun x σ1=>∃ xs:List SV,ItOf c A t0 x σ1 xs∧∀ C D,σ1 C=none→σ1 D=none→D≠C→∃ J:Nat→Sig→Prop,J 0 (fr (upd σ1 D (some (.dictI []))) C [] (fun _=>none)) ∧
   (∀ i y σ',xs[i]?=some y→J i σ'→T1 c RU A (assign t0 (compEnvC scope cl C env)) y σ' (fun _ σ2=>TTests c A (compEnvC scope cl C env) f0 σ2 (fun b σ3=>(b=false→J (i+1) σ3) ∧
    (b=true→TV c A (eval kx (compEnvC scope cl C env)) σ3 (fun k σ4=>TV c A (eval vx (compEnvC scope cl C env)) σ4 (fun v σ5=>∃ k' kvs,k=.d (.int k')∧σ5 D=some (.dictI kvs)∧kvs.length≤1000∧J (i+1) (upd σ5 D (some (.dictI (sset kvs k' v)))))))))) ∧
   ∀ σ',J xs.length σ'→∃ σ2 m,σ'=fr σ2 C [] m∧σ2 C=none∧Q (.ref D) σ2))
  (hclos:autoParam (closureFor scope env=pure cl) aR) (hcell:autoParam (∀ y∈scope.names,y.2≠.cell) aD) (hkind:autoParam (scope.kind=.function) aR)
  (hnames:autoParam (∀ y∈scope.names,y.2=.local→scope.names.lookup y.1=some .local) aD) (hs:∀ x,foldedSetIterable i0 env x=pure x:=by exact fun _=>rfl) :
  TV c A (eval (.DictComp kx vx [⟨t0,i0,f0,0⟩] scope pos) env) σ Q:=.mk fun F0 s0 E H0=>by
 rw [arm_eval_DictComp]
 refine wpAny_comprehension_free (use:=none) rfl hs hclos hkind hnames (h.wp H0 fun v s1 F1 σ1 x r1 H1 X1 q1=>?_)
 obtain ⟨xs,hit,q1⟩:=q1
 refine hit F1 s1 E v _ H1 r1 fun I fp wr W h' tk K hw hd hq hk=>?_
 have B0:=Btw.start (tk:=tk) H1 K hw hd hq hk
 have hD1:∀ a,h'.objs.size≤a→s1.heap.get? a=none:=fun a ha=>by
  cases e:s1.heap.get? a with
  | none=>rfl
  | some o=>have z:a < h'.objs.size:=Heap.lt_size (hk a o e);omega
 have dead:∀ a,s1.heap.get? a=none→σ1 a=none:=fun a ha=>by
  cases e:σ1 a with
  | none=>rfl
  | some o=>obtain ⟨ob,gg⟩:=(H1.tr a o e).2.alive;rw [ha] at gg;cases gg
 refine wpAny_newObj_type (wpAny_newFunctionEnv hcell (by intro y hy;simp at hy) (fun h₁ hns₁ hsb₁=>?_) hkind)
 dsimp only at hns₁ hsb₁ ⊢
 have gD0:(h'.push { cls:=.type "dict",dict:=none,data:=.dict #[] }).DictOf (intKind c.prog c.w) h'.objs.size []:=Heap.DictOf.new h'
 have hold:∀ b o,h'.get? b=some o→(h'.push { cls:=.type "dict",dict:=none,data:=.dict #[] }).get? b=some o:=fun b o e=>Heap.get?_push_of_some _ e
 have hszz:=Heap.size_push h' { cls:=.type "dict",dict:=none,data:=.dict #[] }
 have hnm:=B0.st.newMod
 generalize hH2:h'.push { cls:=.type "dict",dict:=none,data:=.dict #[] }=H2 at hns₁ hsb₁ gD0 hold hszz ⊢
 have hCs:H2.objs.size=h'.objs.size+1:=hszz
 have hDC:h'.objs.size≠H2.objs.size:=by exact om206 hszz
 have old1:∀ b o,H2.get? b=some o→h₁.get? b=some o:=fun b o e=>hsb₁.extBut b o (Nat.ne_of_lt (Heap.lt_size e)) (Heap.get?_push_of_some _ e)
 have hC1:=hD1 H2.objs.size (om207 hszz)
 have hDd:=hD1 h'.objs.size (Nat.le_refl _)
 have S1:=B0.st.new (h':=H2) (tk:=tk) (a:=h'.objs.size) (o:=.dictI []) (get_fresh _ (Nat.le_refl _)) hold ⟨hnm,[],gD0,.nil⟩
 have S2:=S1.1.new (h':=h₁) (tk:=tk+([]:List (Str×Value)).length) (a:=H2.objs.size) (o:=.ns (hideC [] fun _=>none)) (get_fresh _ (Nat.le_refl _)) old1 ⟨_,hns₁,fun x v e=>by simp [hideC] at e⟩
 rw [frame0] at S2
 have B1:=(B0.step K S1.2 S1.1).step K S2.2 S2.1
 obtain ⟨J,j0,step,fin⟩:=q1 H2.objs.size h'.objs.size (dead _ hC1) (dead _ hDd) hDC
 have loop:∀ s₂:Shared,s₂={ s1 with heap:=h₁,toks:=tk+([]:List (Str×Value)).length } →
   codeAny c.M A (.compLoop (.DictComp kx vx [⟨t0,i0,f0,0⟩] scope pos) 0 (.ref I) (.ref h'.objs.size) (compEnvC scope cl H2.objs.size env)) (compPost c.M A E none (Post c VRel F0 σ s0 Q) (.ref h'.objs.size) H2.objs.size) s₂:=by
  rintro s₂ rfl
  refine compJ (ifs:=f0) (cenv:=compEnvC scope cl H2.objs.size env) (p:=i0.pos)
   (Em:=eval kx (compEnvC scope cl H2.objs.size env) >>= fun kv=>holding [kv] (eval vx (compEnvC scope cl H2.objs.size env)) >>= fun vv=>standAt { kx.pos with endLine:=vx.pos.endLine,endCol:=vx.pos.endCol } >>= fun _=>holding [kv,vv] (dictSet h'.objs.size kv vv))
   J rfl (fun P E s h=>?_) K hd B1 j0 (fun i y σ' hy hj=>?_) (fun F' σ' s' H' X' hj=>?_)
  ·show wpAny _ A ((compTurn (.DictComp kx vx [⟨t0,i0,f0,0⟩] scope pos) 0 (.ref I) (.ref h'.objs.size) (compEnvC scope cl H2.objs.size env)).onRaise (fun x=>do noteFrame x (compEnvC scope cl H2.objs.size env);theTreesLotGoes x)) _ _ s
   refine wpAny_noted ?_
   rw [compTurn_dictE]
   exact wpAny_mono h (fun _ _ q=>q) fun _ _ f=>f.elim
  ·exact t1_mono (step i y σ' hy hj) fun _ σ5 q=>tests_mono q fun b σ6 w=>⟨w.1,fun hb=>T_storE (w.2 hb) _⟩
  ·obtain ⟨σ2,m,rfl,hσ,q⟩:=fin σ' hj
   obtain ⟨_,m',hn,_⟩:=H'.tr _ _ (fr_self σ2 H2.objs.size [] m)
   refine ⟨m',hn,fun h'' hs''=>?_⟩
   obtain ⟨H'',X''⟩:=comp_out2 H' X' hC1 hσ hs''
   exact ⟨F',σ2,.ref h'.objs.size,rfl,H'',X1.trans X'',q⟩
 exact codeAny_compStart_dict (loop _ rfl) (K.self _ _ _ (K.frame 0 _ _ hw fun b hb o e=>old1 b o (hold b o e)) (loop _ rfl))
end
end Mine
end
section
namespace Mine
section
variable {c:Cfg} {A:Around} {σ:Sig} {env:Env} {Q:SV→Sig→Prop}
theorem subs_slice {prog:Program} {w:World} {E:Value→Shared→Prop} {s:Shared} {value:Expr} {lower upper:Option Expr} {p pos:Pos} {T id:String} {Q:Value→Shared→Prop}
  (hl:typeLookup (.type T) "__getitem__"=pure (some (.builtin id)))
  (h:wpAny (model prog w) A (eval value env) (fun o s1=>wpAny (model prog w) A (eval (.Slice lower upper none p) env) (fun i s2=>s2.TypeIs o T∧wpAny (model prog w) A (getItem o i) Q E s2) E s1) E s) :
  wpAny (model prog w) A (eval (.Subscript value (.Slice lower upper none p) pos) env) Q E s:=by
 rw [eval_Subscript]
 refine wpAny_bind (wpAny_mono h (fun o s1 h1=>wpAny_bind (wpAny_holding (wpAny_mono h1 (fun i s2 h2=>wpAny_bind (wpAny_standAt ?_)) fun _ _ x=>x))) fun _ _ x=>x)
 have fin:wpAny (model prog w) A (operate [i,o] (getItem o i)) (fun r s3=>wpAny (model prog w) A (letTemporaryGo value o r >>= fun _=>pure r) Q E s3) E s2 :=
  wpAny_operating (wpAny_mono h2.2 (fun r s3 h3=>wpAny_bind (wpAny_letTemporaryGo (wpAny_pure h3))) fun _ _ x=>x)
 refine wpAny_bind ?_
 rw [getitemInPython_of_ne h2.1.not_modules]
 refine wpAny_bind (wpAny_specialOf h2.1 hl ?_)
 first
  | exact wpAny_pure (wpAny_bind fin)
  | exact wpAny_bind (wpAny_pure (wpAny_bind fin))
theorem t_slice {value:Expr} {lower upper:Option Expr} {p pos:Pos}
  (h:TV c A (eval value env) σ (fun x σ1=>TV c A (evalPart lower env) σ1 (fun l σ2=>TV c A (evalPart upper env) σ2 (SliceQ Q x l)))) :
  TV c A (eval (.Subscript value (.Slice lower upper none p) pos) env) σ Q:=.mk fun F s E H=>by
 refine subs_slice (T := "list") (id := "list.__getitem__") slot_list_getitem.lookup (h.wp H fun v s1 F1 σ1 x r1 H1 X1 q1=>wpAny_Slice (q1.wp H1 fun vl s2 F2 σ2 l r2 H2 X2 q2=>q2.wp H2 fun vu s3 F3 σ3 u r3 H3 X3 q3=>?_))
 obtain ⟨ds,lo,hi,a,b,hx,hz,hl,hu,hs,q⟩:=q3
 refine wpAny_pure ?_
 have rx:VRel F3 x v:=(r1.mono X2.fle).mono X3.fle
 have hk:∀ b o,s3.heap.get? b=some o→(s3.heap.push { cls:=Value.type "slice",data:=Data.fields #[vl,vu,.none] }).get? b=some o:=fun b o e=>Heap.get?_push_of_some _ e
 have S3:=H3.same (h':=s3.heap.push { cls:=Value.type "slice",data:=Data.fields #[vl,vu,.none] }) (tk:=s3.toks) hk
 refine ⟨typeIL hx F3 _ v S3.1 rx,?_⟩
 obtain ⟨la,vs,rfl,g,p⟩:=hx.get S3.1 rx
 have hlen:vs.length=ds.length:=by rw [←p.length,List.length_map]
 refine wpAny_getItem_list_slice g ⟨_,Heap.get?_push_size _ rfl,rfl,rfl⟩ (spart_is hl (r2.mono X3.fle)) (spart_is hu r3) .none (by simp) ?_ (by rw [List.size_toArray,hlen,sizeLine_eq];exact om193 hz hlen)
 have e:=hs.pick vs hlen
 have e':slicePick vs.toArray lo hi none=((vs.drop a).take b).toArray:=by rw [←e]
 rw [e']
 obtain ⟨l4,S4,X4⟩:=S3.1.newF (h':=Heap.push _ (listObj ((vs.drop a).take b) 0)) (tk:=s3.toks) (get_fresh _ (Nat.le_refl _)) (fun b o e=>Heap.get?_push_of_some _ e) (Heap.get?_push_size _ rfl)
 refine ⟨_,σ3,.d (.list ((ds.drop a).take b)),?_,S4,(((X1.trans X2).trans X3).trans S3.2).trans X4,q⟩
 simp only [VRel,RD]
 exact ⟨_,(vs.drop a).take b,0,rfl,updF_self ..,(rds_of_paired (by rw [List.map_take,List.map_drop];exact paired_take b (paired_drop a p))).mono l4⟩
end
end Mine
end
section
set_option maxHeartbeats 4000000
namespace Mine
noncomputable def stIn:List Stmt→Nat→Stmt
 | [],_=>.Pass default
 | s :: _,0=>s
 | _ :: l,i+1=>stIn l i
noncomputable def stA (i:Nat):Stmt:=stIn PySem.Challenge.pw_pm0076_01.main.body i
noncomputable def clB:Stmt→List Stmt
 | .ClassDef _ _ _ b _ _ _ _ _ _ _=>b
 | _=>[]
noncomputable def stB (i j:Nat):Stmt:=stIn (clB (stA i)) j
noncomputable def fPs:Stmt→Arguments
 | .FunctionDef _ a _ _ _ _ _ _ _ _=>a
 | _=>default
noncomputable def fBd:Stmt→List Stmt
 | .FunctionDef _ _ b _ _ _ _ _ _ _=>b
 | _=>[]
noncomputable def fSc:Stmt→Scope
 | .FunctionDef _ _ _ _ _ _ s _ _ _=>s
 | _=>default
noncomputable def KN (P:Params):Frag :=
 [(3,⟨(.type "dict"),none,(.dict #[⟨(PyData.keyHash P "__name__"),(.str "__name__" 165),(.str "law_pm0076_01" 596)⟩,⟨(PyData.keyHash P "__doc__"),(.str "__doc__" 166),.none⟩,⟨(PyData.keyHash P "__package__"),(.str "__package__" 167),.none⟩,⟨(PyData.keyHash P "__loader__"),(.str "__loader__" 168),(.builtin "__main__.__loader__#opaque")⟩,⟨(PyData.keyHash P "__spec__"),(.str "__spec__" 169),.none⟩,⟨(PyData.keyHash P "__annotations__"),(.str "__annotations__" 170),(.ref 6)⟩,⟨(PyData.keyHash P "__builtins__"),(.str "__builtins__" 171),(.ref 4)⟩,⟨(PyData.keyHash P "__file__"),(.str "__file__" 173),(.str "/claim/cut.py" 172)⟩,⟨(PyData.keyHash P "__cached__"),(.str "__cached__" 174),.none⟩,⟨(PyData.keyHash P "_wall"),(.str "_wall" 193),(.ref 21)⟩,⟨(PyData.keyHash P "_NODE_OUT"),(.str "_NODE_OUT" 198),(.int (-1) 197)⟩,⟨(PyData.keyHash P "_NODE_DONE"),(.str "_NODE_DONE" 201),(.int (-2) 200)⟩,⟨(PyData.keyHash P "_NodeInfo"),(.str "_NodeInfo" 238),(.ref 40)⟩,⟨(PyData.keyHash P "CycleError"),(.str "CycleError" 256),(.ref 55)⟩,⟨(PyData.keyHash P "TopologicalSorter"),(.str "TopologicalSorter" 375),(.ref 137)⟩,⟨(PyData.keyHash P "ENDMARKER"),(.str "ENDMARKER" 379),(.int 0 378)⟩,⟨(PyData.keyHash P "LPAR"),(.str "LPAR" 381),(.int 7 380)⟩,⟨(PyData.keyHash P "RPAR"),(.str "RPAR" 383),(.int 8 382)⟩,⟨(PyData.keyHash P "LSQB"),(.str "LSQB" 385),(.int 9 384)⟩,⟨(PyData.keyHash P "RSQB"),(.str "RSQB" 387),(.int 10 386)⟩,⟨(PyData.keyHash P "COLON"),(.str "COLON" 389),(.int 11 388)⟩,⟨(PyData.keyHash P "COMMA"),(.str "COMMA" 391),(.int 12 390)⟩,⟨(PyData.keyHash P "SEMI"),(.str "SEMI" 393),(.int 13 392)⟩,⟨(PyData.keyHash P "PLUS"),(.str "PLUS" 395),(.int 14 394)⟩,⟨(PyData.keyHash P "MINUS"),(.str "MINUS" 397),(.int 15 396)⟩,⟨(PyData.keyHash P "STAR"),(.str "STAR" 399),(.int 16 398)⟩,⟨(PyData.keyHash P "SLASH"),(.str "SLASH" 401),(.int 17 400)⟩,⟨(PyData.keyHash P "VBAR"),(.str "VBAR" 403),(.int 18 402)⟩,⟨(PyData.keyHash P "AMPER"),(.str "AMPER" 405),(.int 19 404)⟩,⟨(PyData.keyHash P "LESS"),(.str "LESS" 407),(.int 20 406)⟩,⟨(PyData.keyHash P "GREATER"),(.str "GREATER" 409),(.int 21 408)⟩,⟨(PyData.keyHash P "EQUAL"),(.str "EQUAL" 411),(.int 22 410)⟩,⟨(PyData.keyHash P "DOT"),(.str "DOT" 413),(.int 23 412)⟩,⟨(PyData.keyHash P "PERCENT"),(.str "PERCENT" 415),(.int 24 414)⟩,⟨(PyData.keyHash P "LBRACE"),(.str "LBRACE" 417),(.int 25 416)⟩,⟨(PyData.keyHash P "RBRACE"),(.str "RBRACE" 419),(.int 26 418)⟩,⟨(PyData.keyHash P "EQEQUAL"),(.str "EQEQUAL" 421),(.int 27 420)⟩,⟨(PyData.keyHash P "NOTEQUAL"),(.str "NOTEQUAL" 423),(.int 28 422)⟩,⟨(PyData.keyHash P "LESSEQUAL"),(.str "LESSEQUAL" 425),(.int 29 424)⟩,⟨(PyData.keyHash P "GREATEREQUAL"),(.str "GREATEREQUAL" 427),(.int 30 426)⟩,⟨(PyData.keyHash P "TILDE"),(.str "TILDE" 429),(.int 31 428)⟩,⟨(PyData.keyHash P "CIRCUMFLEX"),(.str "CIRCUMFLEX" 431),(.int 32 430)⟩,⟨(PyData.keyHash P "LEFTSHIFT"),(.str "LEFTSHIFT" 433),(.int 33 432)⟩,⟨(PyData.keyHash P "RIGHTSHIFT"),(.str "RIGHTSHIFT" 435),(.int 34 434)⟩,⟨(PyData.keyHash P "DOUBLESTAR"),(.str "DOUBLESTAR" 437),(.int 35 436)⟩,⟨(PyData.keyHash P "PLUSEQUAL"),(.str "PLUSEQUAL" 439),(.int 36 438)⟩,⟨(PyData.keyHash P "MINEQUAL"),(.str "MINEQUAL" 441),(.int 37 440)⟩,⟨(PyData.keyHash P "STAREQUAL"),(.str "STAREQUAL" 443),(.int 38 442)⟩,⟨(PyData.keyHash P "SLASHEQUAL"),(.str "SLASHEQUAL" 445),(.int 39 444)⟩,⟨(PyData.keyHash P "PERCENTEQUAL"),(.str "PERCENTEQUAL" 447),(.int 40 446)⟩,⟨(PyData.keyHash P "AMPEREQUAL"),(.str "AMPEREQUAL" 449),(.int 41 448)⟩,⟨(PyData.keyHash P "VBAREQUAL"),(.str "VBAREQUAL" 451),(.int 42 450)⟩,⟨(PyData.keyHash P "CIRCUMFLEXEQUAL"),(.str "CIRCUMFLEXEQUAL" 453),(.int 43 452)⟩,⟨(PyData.keyHash P "LEFTSHIFTEQUAL"),(.str "LEFTSHIFTEQUAL" 455),(.int 44 454)⟩,⟨(PyData.keyHash P "RIGHTSHIFTEQUAL"),(.str "RIGHTSHIFTEQUAL" 457),(.int 45 456)⟩,⟨(PyData.keyHash P "DOUBLESTAREQUAL"),(.str "DOUBLESTAREQUAL" 459),(.int 46 458)⟩,⟨(PyData.keyHash P "DOUBLESLASH"),(.str "DOUBLESLASH" 461),(.int 47 460)⟩,⟨(PyData.keyHash P "DOUBLESLASHEQUAL"),(.str "DOUBLESLASHEQUAL" 463),(.int 48 462)⟩,⟨(PyData.keyHash P "AT"),(.str "AT" 465),(.int 49 464)⟩,⟨(PyData.keyHash P "ATEQUAL"),(.str "ATEQUAL" 467),(.int 50 466)⟩,⟨(PyData.keyHash P "RARROW"),(.str "RARROW" 469),(.int 51 468)⟩,⟨(PyData.keyHash P "ELLIPSIS"),(.str "ELLIPSIS" 471),(.int 52 470)⟩,⟨(PyData.keyHash P "COLONEQUAL"),(.str "COLONEQUAL" 473),(.int 53 472)⟩,⟨(PyData.keyHash P "EXCLAMATION"),(.str "EXCLAMATION" 475),(.int 54 474)⟩,⟨(PyData.keyHash P "NT_OFFSET"),(.str "NT_OFFSET" 477),(.int 256 476)⟩,⟨(PyData.keyHash P "EXACT_TOKEN_TYPES"),(.str "EXACT_TOKEN_TYPES" 574),(.ref 142)⟩,⟨(PyData.keyHash P "ISTERMINAL"),(.str "ISTERMINAL" 581),(.ref 151)⟩,⟨(PyData.keyHash P "ISNONTERMINAL"),(.str "ISNONTERMINAL" 588),(.ref 158)⟩,⟨(PyData.keyHash P "ISEOF"),(.str "ISEOF" 595),(.ref 165)⟩,⟨(PyData.keyHash P "_law_operators"),(.str "_law_operators" 603),(.ref 172)⟩,⟨(PyData.keyHash P "_law_rules"),(.str "_law_rules" 609),(.ref 177)⟩,⟨(PyData.keyHash P "_law_number"),(.str "_law_number" 617),(.ref 184)⟩,⟨(PyData.keyHash P "_law_empties"),(.str "_law_empties" 623),(.ref 189)⟩,⟨(PyData.keyHash P "_law_fronts"),(.str "_law_fronts" 637),(.ref 196)⟩,⟨(PyData.keyHash P "_law_chain"),(.str "_law_chain" 643),(.ref 201)⟩,⟨(PyData.keyHash P "_law_due"),(.str "_law_due" 649),(.ref 206)⟩,⟨(PyData.keyHash P "law"),(.str "law" 655),(.ref 211)⟩] 77),#[]⟩),
 (35,⟨(.type "code"),none,(.fields #[(.str "__init__" 218),(.str "_NodeInfo.__init__" 219),(.str "/claim/cut.py" 220),(.int 10 0),(.int 2 0),(.int 0 0),(.int 0 0),(.int 3 0),(.ref 30),(.bool .true),(.int 181 0),(.ref 31),.none,(.ref 32),(.ref 33),(.ref 34),(.int 223 0),(.int 10 0),(.str "/claim/cut.py" 224)]),#[]⟩),
 (36,⟨(.type "function"),none,.func ⟨"__init__","_NodeInfo.__init__",fPs (stB 4 1),.stmts (fBd (stB 4 1)),fSc (stB 4 1),3,[],.none,.none,.none,(.str "cpy313.graphlib" 194),none,(.ref 35),.none,0⟩,#[]⟩),
 (39,⟨(.type "dict"),none,(.dict #[⟨(PyData.keyHash P "__module__"),(.str "__module__" 209),(.str "cpy313.graphlib" 194)⟩,⟨(PyData.keyHash P "__firstlineno__"),(.str "__firstlineno__" 213),(.int 7 212)⟩,⟨(PyData.keyHash P "__slots__"),(.str "__slots__" 217),(.ref 29)⟩,⟨(PyData.keyHash P "__init__"),(.str "__init__" 225),(.ref 36)⟩,⟨(PyData.keyHash P "__static_attributes__"),(.str "__static_attributes__" 229),(.ref 37)⟩,⟨(PyData.keyHash P "node"),(.str "node" 231),(.ref 41)⟩,⟨(PyData.keyHash P "npredecessors"),(.str "npredecessors" 233),(.ref 42)⟩,⟨(PyData.keyHash P "successors"),(.str "successors" 235),(.ref 43)⟩,⟨(PyData.keyHash P "__doc__"),(.str "__doc__" 236),.none⟩] 5),#[]⟩),
 (40,⟨(.type "type"),none,(.cls ⟨"_NodeInfo",[(.type "object")],[(.ref 40),(.type "object")],39,"_NodeInfo",.false,["node","npredecessors","successors"],[],.false,none,.false⟩),#[none,none,(some (.str "_NodeInfo" 202)),(some (.str "_NodeInfo" 210)),(some (.builtin "object.__new__")),(some (.bool .false))]⟩),
 (41,⟨(.type "member_descriptor"),none,(.fields #[(.str "node" 230),(.ref 40),(.builtin "proto.slot"),(.builtin "proto.slot#set"),(.int 2 0)]),#[]⟩),
 (42,⟨(.type "member_descriptor"),none,(.fields #[(.str "npredecessors" 232),(.ref 40),(.builtin "proto.slot"),(.builtin "proto.slot#set"),(.int 1 0)]),#[]⟩),
 (43,⟨(.type "member_descriptor"),none,(.fields #[(.str "successors" 234),(.ref 40),(.builtin "proto.slot"),(.builtin "proto.slot#set"),(.int 0 0)]),#[]⟩),
 (46,⟨(.type "tuple"),none,(.seq #[(.type "ValueError")] 0),#[]⟩),
 (54,⟨(.type "dict"),none,(.dict #[⟨(PyData.keyHash P "__module__"),(.str "__module__" 246),(.str "cpy313.graphlib" 194)⟩,⟨(PyData.keyHash P "__firstlineno__"),(.str "__firstlineno__" 250),(.int 14 249)⟩,⟨(PyData.keyHash P "__static_attributes__"),(.str "__static_attributes__" 251),(.ref 53)⟩,⟨(PyData.keyHash P "__weakref__"),(.str "__weakref__" 253),(.ref 56)⟩,⟨(PyData.keyHash P "__doc__"),(.str "__doc__" 254),.none⟩] 3),#[]⟩),
 (55,⟨(.type "type"),none,(.cls ⟨"CycleError",[(.type "ValueError")],[(.ref 55),(.type "ValueError"),(.type "Exception"),(.type "BaseException"),(.type "object")],54,"CycleError",.true,[],[],.false,none,.false⟩),#[(some (.ref 46)),none,(some (.str "CycleError" 239)),(some (.str "CycleError" 247)),(some (.builtin "ValueError.__new__")),(some (.bool .true))]⟩),
 (66,⟨(.type "tuple"),none,(.seq #[.none] 0),#[]⟩),
 (72,⟨(.type "code"),none,(.fields #[(.str "__init__" 269),(.str "TopologicalSorter.__init__" 270),(.str "/claim/cut.py" 271),(.int 18 0),(.int 2 0),(.int 0 0),(.int 0 0),(.int 3 0),(.ref 67),(.bool .true),(.int 181 0),(.ref 68),.none,(.ref 69),(.ref 70),(.ref 71),(.int 276 0),(.int 18 0),(.str "/claim/cut.py" 277)]),#[]⟩),
 (73,⟨(.type "function"),none,.func ⟨"__init__","TopologicalSorter.__init__",fPs (stB 6 0),.stmts (fBd (stB 6 0)),fSc (stB 6 0),3,[],(.ref 66),.none,.none,(.str "cpy313.graphlib" 194),none,(.ref 72),.none,0⟩,#[]⟩),
 (79,⟨(.type "code"),none,(.fields #[(.str "_get_nodeinfo" 279),(.str "TopologicalSorter._get_nodeinfo" 280),(.str "/claim/cut.py" 281),(.int 27 0),(.int 2 0),(.int 0 0),(.int 0 0),(.int 3 0),(.ref 74),(.bool .true),(.int 181 0),(.ref 75),.none,(.ref 76),(.ref 77),(.ref 78),(.int 285 0),(.int 27 0),(.str "/claim/cut.py" 286)]),#[]⟩),
 (80,⟨(.type "function"),none,.func ⟨"_get_nodeinfo","TopologicalSorter._get_nodeinfo",fPs (stB 6 1),.stmts (fBd (stB 6 1)),fSc (stB 6 1),3,[],.none,.none,.none,(.str "cpy313.graphlib" 194),none,(.ref 79),.none,0⟩,#[]⟩),
 (86,⟨(.type "code"),none,(.fields #[(.str "add" 288),(.str "TopologicalSorter.add" 289),(.str "/claim/cut.py" 290),(.int 32 0),(.int 2 0),(.int 0 0),(.int 0 0),(.int 7 0),(.ref 81),(.bool .true),(.int 181 0),(.ref 82),.none,(.ref 83),(.ref 84),(.ref 85),(.int 297 0),(.int 32 0),(.str "/claim/cut.py" 298)]),#[]⟩),
 (87,⟨(.type "function"),none,.func ⟨"add","TopologicalSorter.add",fPs (stB 6 2),.stmts (fBd (stB 6 2)),fSc (stB 6 2),3,[],.none,.none,.none,(.str "cpy313.graphlib" 194),none,(.ref 86),.none,0⟩,#[]⟩),
 (91,⟨(.type "code"),none,(.fields #[(.str "prepare" 300),(.str "TopologicalSorter.prepare" 301),(.str "/claim/cut.py" 302),(.int 41 0),(.int 1 0),(.int 0 0),(.int 0 0),(.int 3 0),(.ref 88),(.bool .true),(.int 181 0),(.ref 89),.none,.none,.none,(.ref 90),(.int 303 0),(.int 41 0),(.str "/claim/cut.py" 304)]),#[]⟩),
 (92,⟨(.type "function"),none,.func ⟨"prepare","TopologicalSorter.prepare",fPs (stB 6 3),.stmts (fBd (stB 6 3)),fSc (stB 6 3),3,[],.none,.none,.none,(.str "cpy313.graphlib" 194),none,(.ref 91),.none,0⟩,#[]⟩),
 (98,⟨(.type "code"),none,(.fields #[(.str "get_ready" 306),(.str "TopologicalSorter.get_ready" 307),(.str "/claim/cut.py" 308),(.int 49 0),(.int 1 0),(.int 0 0),(.int 0 0),(.int 3 0),(.ref 93),(.bool .true),(.int 181 0),(.ref 94),.none,(.ref 95),(.ref 96),(.ref 97),(.int 313 0),(.int 49 0),(.str "/claim/cut.py" 314)]),#[]⟩),
 (99,⟨(.type "function"),none,.func ⟨"get_ready","TopologicalSorter.get_ready",fPs (stB 6 4),.stmts (fBd (stB 6 4)),fSc (stB 6 4),3,[],.none,.none,.none,(.str "cpy313.graphlib" 194),none,(.ref 98),.none,0⟩,#[]⟩),
 (105,⟨(.type "code"),none,(.fields #[(.str "is_active" 316),(.str "TopologicalSorter.is_active" 317),(.str "/claim/cut.py" 318),(.int 60 0),(.int 1 0),(.int 0 0),(.int 0 0),(.int 3 0),(.ref 100),(.bool .true),(.int 181 0),(.ref 101),.none,(.ref 102),(.ref 103),(.ref 104),(.int 320 0),(.int 60 0),(.str "/claim/cut.py" 321)]),#[]⟩),
 (106,⟨(.type "function"),none,.func ⟨"is_active","TopologicalSorter.is_active",fPs (stB 6 5),.stmts (fBd (stB 6 5)),fSc (stB 6 5),3,[],.none,.none,.none,(.str "cpy313.graphlib" 194),none,(.ref 105),.none,0⟩,#[]⟩),
 (119,⟨(.type "code"),none,(.fields #[(.str "done" 330),(.str "TopologicalSorter.done" 331),(.str "/claim/cut.py" 332),(.int 68 0),(.int 1 0),(.int 0 0),(.int 0 0),(.int 7 0),(.ref 114),(.bool .true),(.int 181 0),(.ref 115),.none,(.ref 116),(.ref 117),(.ref 118),(.int 341 0),(.int 68 0),(.str "/claim/cut.py" 342)]),#[]⟩),
 (120,⟨(.type "function"),none,.func ⟨"done","TopologicalSorter.done",fPs (stB 6 7),.stmts (fBd (stB 6 7)),fSc (stB 6 7),3,[],.none,.none,.none,(.str "cpy313.graphlib" 194),none,(.ref 119),.none,0⟩,#[]⟩),
 (126,⟨(.type "code"),none,(.fields #[(.str "_find_cycle" 344),(.str "TopologicalSorter._find_cycle" 345),(.str "/claim/cut.py" 346),(.int 91 0),(.int 1 0),(.int 0 0),(.int 0 0),(.int 3 0),(.ref 121),(.bool .true),(.int 181 0),(.ref 122),.none,(.ref 123),(.ref 124),(.ref 125),(.int 354 0),(.int 91 0),(.str "/claim/cut.py" 355)]),#[]⟩),
 (127,⟨(.type "function"),none,.func ⟨"_find_cycle","TopologicalSorter._find_cycle",fPs (stB 6 8),.stmts (fBd (stB 6 8)),fSc (stB 6 8),3,[],.none,.none,.none,(.str "cpy313.graphlib" 194),none,(.ref 126),.none,0⟩,#[]⟩),
 (136,⟨(.type "dict"),none,(.dict #[⟨(PyData.keyHash P "__module__"),(.str "__module__" 264),(.str "cpy313.graphlib" 194)⟩,⟨(PyData.keyHash P "__firstlineno__"),(.str "__firstlineno__" 268),(.int 16 267)⟩,⟨(PyData.keyHash P "__init__"),(.str "__init__" 278),(.ref 73)⟩,⟨(PyData.keyHash P "_get_nodeinfo"),(.str "_get_nodeinfo" 287),(.ref 80)⟩,⟨(PyData.keyHash P "add"),(.str "add" 299),(.ref 87)⟩,⟨(PyData.keyHash P "prepare"),(.str "prepare" 305),(.ref 92)⟩,⟨(PyData.keyHash P "get_ready"),(.str "get_ready" 315),(.ref 99)⟩,⟨(PyData.keyHash P "is_active"),(.str "is_active" 322),(.ref 106)⟩,⟨(PyData.keyHash P "__bool__"),(.str "__bool__" 329),(.ref 113)⟩,⟨(PyData.keyHash P "done"),(.str "done" 343),(.ref 120)⟩,⟨(PyData.keyHash P "_find_cycle"),(.str "_find_cycle" 356),(.ref 127)⟩,⟨(PyData.keyHash P "static_order"),(.str "static_order" 363),(.ref 134)⟩,⟨(PyData.keyHash P "__static_attributes__"),(.str "__static_attributes__" 368),(.ref 135)⟩,⟨(PyData.keyHash P "__dict__"),(.str "__dict__" 370),(.ref 138)⟩,⟨(PyData.keyHash P "__weakref__"),(.str "__weakref__" 372),(.ref 139)⟩,⟨(PyData.keyHash P "__doc__"),(.str "__doc__" 373),.none⟩] 4),#[]⟩),
 (137,⟨(.type "type"),none,(.cls ⟨"TopologicalSorter",[(.type "object")],[(.ref 137),(.type "object")],136,"TopologicalSorter",.true,[],[],.false,none,.false⟩),#[none,none,(some (.str "TopologicalSorter" 257)),(some (.str "TopologicalSorter" 265)),(some (.builtin "object.__new__")),(some (.bool .true))]⟩),
 (142,⟨(.type "dict"),none,(.dict #[⟨(PyData.keyHash P "!"),(.str "!" 478),(.int 54 474)⟩,⟨(PyData.keyHash P "!="),(.str "!=" 480),(.int 28 422)⟩,⟨(PyData.keyHash P "%"),(.str "%" 482),(.int 24 414)⟩,⟨(PyData.keyHash P "%="),(.str "%=" 484),(.int 40 446)⟩,⟨(PyData.keyHash P "&"),(.str "&" 486),(.int 19 404)⟩,⟨(PyData.keyHash P "&="),(.str "&=" 488),(.int 41 448)⟩,⟨(PyData.keyHash P "("),(.str "(" 490),(.int 7 380)⟩,⟨(PyData.keyHash P ")"),(.str ")" 492),(.int 8 382)⟩,⟨(PyData.keyHash P "*"),(.str "*" 494),(.int 16 398)⟩,⟨(PyData.keyHash P "**"),(.str "**" 496),(.int 35 436)⟩,⟨(PyData.keyHash P "**="),(.str "**=" 498),(.int 46 458)⟩,⟨(PyData.keyHash P "*="),(.str "*=" 500),(.int 38 442)⟩,⟨(PyData.keyHash P "+"),(.str "+" 502),(.int 14 394)⟩,⟨(PyData.keyHash P "+="),(.str "+=" 504),(.int 36 438)⟩,⟨(PyData.keyHash P ","),(.str "," 506),(.int 12 390)⟩,⟨(PyData.keyHash P "-"),(.str "-" 508),(.int 15 396)⟩,⟨(PyData.keyHash P "-="),(.str "-=" 510),(.int 37 440)⟩,⟨(PyData.keyHash P "->"),(.str "->" 512),(.int 51 468)⟩,⟨(PyData.keyHash P "."),(.str "." 514),(.int 23 412)⟩,⟨(PyData.keyHash P "..."),(.str "..." 516),(.int 52 470)⟩,⟨(PyData.keyHash P "/"),(.str "/" 518),(.int 17 400)⟩,⟨(PyData.keyHash P "//"),(.str "//" 520),(.int 47 460)⟩,⟨(PyData.keyHash P "//="),(.str "//=" 522),(.int 48 462)⟩,⟨(PyData.keyHash P "/="),(.str "/=" 524),(.int 39 444)⟩,⟨(PyData.keyHash P ":"),(.str ":" 526),(.int 11 388)⟩,⟨(PyData.keyHash P ":="),(.str ":=" 528),(.int 53 472)⟩,⟨(PyData.keyHash P ";"),(.str ";" 530),(.int 13 392)⟩,⟨(PyData.keyHash P "<"),(.str "<" 532),(.int 20 406)⟩,⟨(PyData.keyHash P "<<"),(.str "<<" 534),(.int 33 432)⟩,⟨(PyData.keyHash P "<<="),(.str "<<=" 536),(.int 44 454)⟩,⟨(PyData.keyHash P "<="),(.str "<=" 538),(.int 29 424)⟩,⟨(PyData.keyHash P "="),(.str "=" 540),(.int 22 410)⟩,⟨(PyData.keyHash P "=="),(.str "==" 542),(.int 27 420)⟩,⟨(PyData.keyHash P ">"),(.str ">" 544),(.int 21 408)⟩,⟨(PyData.keyHash P ">="),(.str ">=" 546),(.int 30 426)⟩,⟨(PyData.keyHash P ">>"),(.str ">>" 547),(.int 34 434)⟩,⟨(PyData.keyHash P ">>="),(.str ">>=" 548),(.int 45 456)⟩,⟨(PyData.keyHash P "@"),(.str "@" 549),(.int 49 464)⟩,⟨(PyData.keyHash P "@="),(.str "@=" 550),(.int 50 466)⟩,⟨(PyData.keyHash P "["),(.str "[" 551),(.int 9 384)⟩,⟨(PyData.keyHash P "]"),(.str "]" 552),(.int 10 386)⟩,⟨(PyData.keyHash P "^"),(.str "^" 553),(.int 32 430)⟩,⟨(PyData.keyHash P "^="),(.str "^=" 554),(.int 43 452)⟩,⟨(PyData.keyHash P "{"),(.str "{" 555),(.int 25 416)⟩,⟨(PyData.keyHash P "|"),(.str "|" 556),(.int 18 402)⟩,⟨(PyData.keyHash P "|="),(.str "|=" 557),(.int 42 450)⟩,⟨(PyData.keyHash P "}"),(.str "}" 558),(.int 26 418)⟩,⟨(PyData.keyHash P "~"),(.str "~" 559),(.int 31 428)⟩] 48),#[]⟩),
 (150,⟨(.type "code"),none,(.fields #[(.str "ISTERMINAL" 575),(.str "ISTERMINAL" 576),(.str "/claim/cut.py" 577),(.int 174 0),(.int 1 0),(.int 0 0),(.int 0 0),(.int 3 0),(.ref 145),(.bool .true),(.int 181 0),(.ref 146),.none,(.ref 147),(.ref 148),(.ref 149),(.int 579 0),(.int 174 0),(.str "/claim/cut.py" 580)]),#[]⟩),
 (151,⟨(.type "function"),none,.func ⟨"ISTERMINAL","ISTERMINAL",fPs (stA 59),.stmts (fBd (stA 59)),fSc (stA 59),3,[],.none,.none,.none,(.str "cpy313.token" 376),none,(.ref 150),.none,0⟩,#[]⟩),
 (157,⟨(.type "code"),none,(.fields #[(.str "ISNONTERMINAL" 582),(.str "ISNONTERMINAL" 583),(.str "/claim/cut.py" 584),(.int 176 0),(.int 1 0),(.int 0 0),(.int 0 0),(.int 3 0),(.ref 152),(.bool .true),(.int 181 0),(.ref 153),.none,(.ref 154),(.ref 155),(.ref 156),(.int 586 0),(.int 176 0),(.str "/claim/cut.py" 587)]),#[]⟩),
 (158,⟨(.type "function"),none,.func ⟨"ISNONTERMINAL","ISNONTERMINAL",fPs (stA 60),.stmts (fBd (stA 60)),fSc (stA 60),3,[],.none,.none,.none,(.str "cpy313.token" 376),none,(.ref 157),.none,0⟩,#[]⟩),
 (164,⟨(.type "code"),none,(.fields #[(.str "ISEOF" 589),(.str "ISEOF" 590),(.str "/claim/cut.py" 591),(.int 178 0),(.int 1 0),(.int 0 0),(.int 0 0),(.int 3 0),(.ref 159),(.bool .true),(.int 181 0),(.ref 160),.none,(.ref 161),(.ref 162),(.ref 163),(.int 593 0),(.int 178 0),(.str "/claim/cut.py" 594)]),#[]⟩),
 (165,⟨(.type "function"),none,.func ⟨"ISEOF","ISEOF",fPs (stA 61),.stmts (fBd (stA 61)),fSc (stA 61),3,[],.none,.none,.none,(.str "cpy313.token" 376),none,(.ref 164),.none,0⟩,#[]⟩),
 (171,⟨(.type "code"),none,(.fields #[(.str "_law_operators" 598),(.str "_law_operators" 599),(.str "/claim/cut.py" 600),(.int 181 0),(.int 0 0),(.int 0 0),(.int 0 0),(.int 3 0),(.ref 166),(.bool .true),(.int 181 0),(.ref 167),.none,(.ref 168),(.ref 169),(.ref 170),(.int 601 0),(.int 181 0),(.str "/claim/cut.py" 602)]),#[]⟩),
 (172,⟨(.type "function"),none,.func ⟨"_law_operators","_law_operators",fPs (stA 63),.stmts (fBd (stA 63)),fSc (stA 63),3,[],.none,.none,.none,(.str "law_pm0076_01" 596),none,(.ref 171),.none,0⟩,#[]⟩),
 (176,⟨(.type "code"),none,(.fields #[(.str "_law_rules" 604),(.str "_law_rules" 605),(.str "/claim/cut.py" 606),(.int 183 0),(.int 1 0),(.int 0 0),(.int 0 0),(.int 3 0),(.ref 173),(.bool .true),(.int 181 0),(.ref 174),.none,.none,.none,(.ref 175),(.int 607 0),(.int 183 0),(.str "/claim/cut.py" 608)]),#[]⟩),
 (177,⟨(.type "function"),none,.func ⟨"_law_rules","_law_rules",fPs (stA 64),.stmts (fBd (stA 64)),fSc (stA 64),3,[],.none,.none,.none,(.str "law_pm0076_01" 596),none,(.ref 176),.none,0⟩,#[]⟩),
 (183,⟨(.type "code"),none,(.fields #[(.str "_law_number" 610),(.str "_law_number" 611),(.str "/claim/cut.py" 612),(.int 195 0),(.int 1 0),(.int 0 0),(.int 0 0),(.int 3 0),(.ref 178),(.bool .true),(.int 181 0),(.ref 179),.none,(.ref 180),(.ref 181),(.ref 182),(.int 615 0),(.int 195 0),(.str "/claim/cut.py" 616)]),#[]⟩),
 (184,⟨(.type "function"),none,.func ⟨"_law_number","_law_number",fPs (stA 65),.stmts (fBd (stA 65)),fSc (stA 65),3,[],.none,.none,.none,(.str "law_pm0076_01" 596),none,(.ref 183),.none,0⟩,#[]⟩),
 (188,⟨(.type "code"),none,(.fields #[(.str "_law_empties" 618),(.str "_law_empties" 619),(.str "/claim/cut.py" 620),(.int 200 0),(.int 1 0),(.int 0 0),(.int 0 0),(.int 3 0),(.ref 185),(.bool .true),(.int 181 0),(.ref 186),.none,.none,.none,(.ref 187),(.int 621 0),(.int 200 0),(.str "/claim/cut.py" 622)]),#[]⟩),
 (189,⟨(.type "function"),none,.func ⟨"_law_empties","_law_empties",fPs (stA 66),.stmts (fBd (stA 66)),fSc (stA 66),3,[],.none,.none,.none,(.str "law_pm0076_01" 596),none,(.ref 188),.none,0⟩,#[]⟩),
 (195,⟨(.type "code"),none,(.fields #[(.str "_law_fronts" 624),(.str "_law_fronts" 625),(.str "/claim/cut.py" 626),(.int 207 0),(.int 2 0),(.int 0 0),(.int 0 0),(.int 3 0),(.ref 190),(.bool .true),(.int 181 0),(.ref 191),.none,(.ref 192),(.ref 193),(.ref 194),(.int 635 0),(.int 207 0),(.str "/claim/cut.py" 636)]),#[]⟩),
 (196,⟨(.type "function"),none,.func ⟨"_law_fronts","_law_fronts",fPs (stA 67),.stmts (fBd (stA 67)),fSc (stA 67),3,[],.none,.none,.none,(.str "law_pm0076_01" 596),none,(.ref 195),.none,0⟩,#[]⟩),
 (200,⟨(.type "code"),none,(.fields #[(.str "_law_chain" 638),(.str "_law_chain" 639),(.str "/claim/cut.py" 640),(.int 218 0),(.int 2 0),(.int 0 0),(.int 0 0),(.int 3 0),(.ref 197),(.bool .true),(.int 181 0),(.ref 198),.none,.none,.none,(.ref 199),(.int 641 0),(.int 218 0),(.str "/claim/cut.py" 642)]),#[]⟩),
 (201,⟨(.type "function"),none,.func ⟨"_law_chain","_law_chain",fPs (stA 68),.stmts (fBd (stA 68)),fSc (stA 68),3,[],.none,.none,.none,(.str "law_pm0076_01" 596),none,(.ref 200),.none,0⟩,#[]⟩),
 (205,⟨(.type "code"),none,(.fields #[(.str "_law_due" 644),(.str "_law_due" 645),(.str "/claim/cut.py" 646),(.int 220 0),(.int 1 0),(.int 0 0),(.int 0 0),(.int 3 0),(.ref 202),(.bool .true),(.int 181 0),(.ref 203),.none,.none,.none,(.ref 204),(.int 647 0),(.int 220 0),(.str "/claim/cut.py" 648)]),#[]⟩),
 (206,⟨(.type "function"),none,.func ⟨"_law_due","_law_due",fPs (stA 69),.stmts (fBd (stA 69)),fSc (stA 69),3,[],.none,.none,.none,(.str "law_pm0076_01" 596),none,(.ref 205),.none,0⟩,#[]⟩),
 (210,⟨(.type "code"),none,(.fields #[(.str "law" 650),(.str "law" 651),(.str "/claim/cut.py" 652),(.int 230 0),(.int 1 0),(.int 0 0),(.int 0 0),(.int 3 0),(.ref 207),(.bool .true),(.int 181 0),(.ref 208),.none,.none,.none,(.ref 209),(.int 653 0),(.int 230 0),(.str "/claim/cut.py" 654)]),#[]⟩),
 (211,⟨(.type "function"),none,.func ⟨"law","law",fPs (stA 70),.stmts (fBd (stA 70)),fSc (stA 70),3,[],.none,.none,.none,(.str "law_pm0076_01" 596),none,(.ref 210),.none,0⟩,#[]⟩)]
end Mine
end
section
set_option maxHeartbeats 400000
namespace Mine
noncomputable abbrev KP (p:Params):Frag:=KN p
set_option genInjectivity false in
structure GC where
 prog:Program
 w:World
 h₀:Heap
 kin:(KP w.params).In h₀
 p:Program
 loose:List Str
 mg:Str→Option Value
 mb:Str→Option Value
 top:TopRead p loose mg mb h₀
noncomputable abbrev GC.c (G:GC):Cfg:=⟨G.prog,G.w,KP G.w.params,G.h₀,G.kin,G.p,G.loose,G.mg,G.mb,G.top⟩
@[elab_as_elim] theorem pr1 {F:FM} {x:SV} {vs:List Value} {P:List Value→Prop} (h:∀ v,VRel F x v→P [v]) (p:Paired (VRel F) [x] vs):P vs:=by
 cases p with
 | cons a p=>cases p;exact h _ a
@[elab_as_elim] theorem pr2 {F:FM} {x y:SV} {vs:List Value} {P:List Value→Prop} (h:∀ v,VRel F x v→∀ w,VRel F y w→P [v,w]) (p:Paired (VRel F) [x,y] vs):P vs:=by
 cases p with
 | cons a p=>exact pr1 (P:=fun l=>P (_ :: l)) (fun w b=>h _ a w b) p
section
variable {c:Cfg} {A:Around} {F:FM} {σ:Sig} {s:Shared} {env:Env} {Q:SV→Sig→Prop}
noncomputable def strConsts:List Expr→Option (List Str)
 | []=>some []
 | .Constant (.str x) _ _ :: r=>(strConsts r).map (x :: ·)
 | _=>none
noncomputable def intConsts:List Expr→Option (List Int)
 | []=>some []
 | .Constant (.int x) _ _ :: r=>(intConsts r).map (x :: ·)
 | _=>none
theorem T_spl_strs {pos:Pos}:∀ {es:List Expr} {ss:List Str} {Q:List SV→Sig→Prop},strConsts es=some ss→Q (strsL ss) σ→TVs c A (spliced (backTo pos (starEach es env))) σ Q
 | [],ss,Q,h,q=>by cases h;exact T_spl_nil q
 | e :: r,ss,Q,h,q=>by
  unfold strConsts at h
  split at h
  ·rename_i hh;cases hh
  ·rename_i x k p r' hh
   cases hh
   obtain ⟨ss',h',rfl⟩:=Option.map_eq_some_iff.mp h
   exact T_spl_cons (T_str (T_spl_strs h' q)) rfl
  ·cases h
theorem T_spl_ints {pos:Pos}:∀ {es:List Expr} {ss:List Int} {Q:List SV→Sig→Prop},intConsts es=some ss→Q (intsL ss) σ→TVs c A (spliced (backTo pos (starEach es env))) σ Q
 | [],ss,Q,h,q=>by cases h;exact T_spl_nil q
 | e :: r,ss,Q,h,q=>by
  unfold intConsts at h
  split at h
  ·rename_i hh;cases hh
  ·rename_i x k p r' hh
   cases hh
   obtain ⟨ss',h',rfl⟩:=Option.map_eq_some_iff.mp h
   exact T_spl_cons (T_int (T_spl_ints h' q)) rfl
  ·cases h
end
section
variable {G:GC} {A:Around} {σ:Sig} {n:Nat} {Q:SV→Sig→Prop}
noncomputable def ops48:List Str:=(["(",")","[","]",":",",",";","+","-","*","/","|","&","<",">","=",".","%","{","}","==","!=","<=",">=","~","^","<<",">>","**","+=","-=","*=","/=","%=","&=","|=","^=","<<=",">>=","**=","//","//=","@","@=","->","...",":=","!"]:List String).map Str.ofString
theorem W_ops (R:Rm (n+1) A) (h:Q (.d (.list (ops48.map PyData.str))) σ):CallT G.c A (.ref 172) [] σ Q:=by
 refine C_fnK (f:=172) [] rfl ?_ R (fun F vs p=>⟨[],fun S=>?_,.nil⟩) (fun L ok=>?_) (fun L y hy=>by cases hy) ?_ ?_ rfl rfl rfl
 ·rfl
 ·cases p;rfl
 ·refine T_cons (T_ret (T_listF (T_spl_strs (ss:=ops48) rfl ?_)))
  refine ⟨ops48.map PyData.str,by simp,by decide,?_⟩
  exact ⟨σ,_,rfl,ok,h⟩
 ·decide
 ·decide
end
end Mine
end
section
set_option maxHeartbeats 400000
namespace Mine
noncomputable def names4:List Str:=(["A","B","C","D"]:List String).map Str.ofString
noncomputable def abcd:Str:=Str.ofString "ABCD"
noncomputable def symS (n:Int):Str:=if 256≤n then names4.getD (n - 256).toNat "" else ops48.getD (n - 7).toNat ""
noncomputable def IsNm (n:Int):Prop:=256≤n∧n < 260
noncomputable def IsOp (n:Int):Prop:=7≤n∧n < 55
noncomputable def IsSym (n:Int):Prop:=IsNm n∨IsOp n
theorem names_fact:(List.range 4).all (fun i=>Builtin.Str.occurrences abcd (symS (256+(i:Int))) 0 abcd.length 1 == [i])=true:=by decide +kernel
theorem ops_fact:(List.range 48).all (fun j=>(Builtin.Str.occurrences abcd (symS (7+(j:Int))) 0 abcd.length 1).isEmpty && ops48.contains (symS (7+(j:Int))) && ops48.idxOf (symS (7+(j:Int))) == j)=true:=by decide +kernel
theorem nm_occ {n:Int} (h:IsNm n):Builtin.Str.occurrences abcd (symS n) 0 abcd.length 1=[(n - 256).toNat]:=by
 obtain ⟨h1,h2⟩:=h
 have:=List.all_eq_true.mp names_fact (n - 256).toNat (by simp;exact om21 h1 h2)
 rw [show 256+(((n - 256).toNat:Nat):Int)=n by exact om20 h1 h2] at this
 simpa using this
theorem op_all {n:Int} (h:IsOp n):Builtin.Str.occurrences abcd (symS n) 0 abcd.length 1=[]∧symS n∈ops48∧ops48.idxOf (symS n)=(n - 7).toNat:=by
 obtain ⟨h1,h2⟩:=h
 have:=List.all_eq_true.mp ops_fact (n - 7).toNat (by simp;exact om29 h1 h2)
 rw [show 7+(((n - 7).toNat:Nat):Int)=n by exact om27 h1 h2] at this
 simp only [Bool.and_eq_true,List.isEmpty_iff,List.contains_iff_mem,beq_iff_eq] at this
 exact ⟨this.1.1,this.1.2,this.2⟩
section
variable {G:GC} {A:Around} {σ:Sig} {n:Nat} {Q:SV→Sig→Prop}
theorem W_number {k:Int} (R:Rm (n+2) A) (hk:IsSym k) (h:Q (.d (.int k)) σ):CallT G.c A (.ref 184) [.d (.str (symS k))] σ Q:=by
 refine C_fnK (f:=184) [(Str.ofString "symbol",.d (.str (symS k)))] rfl ?_ R (fun F vs p=>?_) (fun L ok=>?_) (fun L y hy=>?_) ?_ ?_ rfl rfl rfl
 ·rfl
 ·exact pr1 (fun v a=>⟨_,fun S=>rfl,.cons ⟨rfl,a⟩ .nil⟩) p
 ·refine T_cons (T_if (t_isCmp (t_loc rfl (T_str (O_inT (truth_bool ⟨fun hb=>?_,fun hb=>?_⟩))))))
  ·rcases hk with hk | hk
   ·refine T_cons (T_ret (T_bin (T_int (t_meth m_indexS (T_str ⟨oft_str,t_a1 (t_loc rfl (O_index (nm_occ hk) (O_add ?_)))⟩)))))
    refine ⟨σ,_,rfl,ok,?_⟩
    rw [show (256:Int)+(((k - 256).toNat:Nat):Int)=k by obtain ⟨h1,h2⟩:=hk;exact om20 h1 h2]
    exact h
   ·rw [show Builtin.Str.occurrences (Str.ofString "ABCD") (symS k) 0 (Str.ofString "ABCD").length 1=[] from (op_all hk).1] at hb
    cases hb
  ·rcases hk with hk | hk
   ·rw [show Builtin.Str.occurrences (Str.ofString "ABCD") (symS k) 0 (Str.ofString "ABCD").length 1=[_] from nm_occ hk] at hb
    cases hb
   ·refine T_nil (T_cons (t_as (t_callG (v:=.ref 172) rfl rfl (t_a0 (W_ops (R.deeper _) (t_st ?_))))))
    refine T_cons (T_ret (T_bin (T_int (t_meth m_index (t_loc rfl ⟨oft_list .d,t_a1 (t_loc rfl (O_indexS ?_ (op_all hk).2.1 (by decide) (O_add ?_)))⟩)))))
    ·exact asl_strs
    ·refine ⟨σ,_,rfl,ok,?_⟩
     rw [(op_all hk).2.2,show (7:Int)+(((k - 7).toNat:Nat):Int)=k by obtain ⟨h1,h2⟩:=hk;exact om27 h1 h2]
     exact h
 ·rcases List.mem_singleton.mp hy with rfl;exact .inl rfl
 ·decide
 ·decide
theorem W_term {k:Int} (R:Rm (n+1) A) (h:Q (.d (.bool (decide (k < 256)))) σ):CallT G.c A (.ref 151) [.d (.int k)] σ Q:=by
 refine C_fnK (f:=151) [(Str.ofString "x",.d (.int k))] rfl ?_ R (fun F vs p=>?_) (fun L ok=>?_) (fun L y hy=>?_) ?_ ?_ rfl rfl rfl
 ·rfl
 ·exact pr1 (fun v a=>⟨_,fun S=>rfl,.cons ⟨rfl,a⟩ .nil⟩) p
 ·exact T_cons (T_ret (t_cmp (t_loc rfl (t_globI rfl (O_ltI ⟨σ,_,rfl,ok,h⟩)))))
 ·rcases List.mem_singleton.mp hy with rfl;exact .inl rfl
 ·decide
 ·decide
theorem W_nonterm {k:Int} (R:Rm (n+1) A) (h:Q (.d (.bool (decide (256≤k)))) σ):CallT G.c A (.ref 158) [.d (.int k)] σ Q:=by
 refine C_fnK (f:=158) [(Str.ofString "x",.d (.int k))] rfl ?_ R (fun F vs p=>?_) (fun L ok=>?_) (fun L y hy=>?_) ?_ ?_ rfl rfl rfl
 ·rfl
 ·exact pr1 (fun v a=>⟨_,fun S=>rfl,.cons ⟨rfl,a⟩ .nil⟩) p
 ·exact T_cons (T_ret (t_cmp (t_loc rfl (t_globI rfl (O_geI ⟨σ,_,rfl,ok,h⟩)))))
 ·rcases List.mem_singleton.mp hy with rfl;exact .inl rfl
 ·decide
 ·decide
theorem W_eof {k:Int} (R:Rm (n+1) A) (h:Q (.d (.bool (k == 0))) σ):CallT G.c A (.ref 165) [.d (.int k)] σ Q:=by
 refine C_fnK (f:=165) [(Str.ofString "x",.d (.int k))] rfl ?_ R (fun F vs p=>?_) (fun L ok=>?_) (fun L y hy=>?_) ?_ ?_ rfl rfl rfl
 ·rfl
 ·exact pr1 (fun v a=>⟨_,fun S=>rfl,.cons ⟨rfl,a⟩ .nil⟩) p
 ·exact T_cons (T_ret (t_cmp (t_loc rfl (t_globI rfl (O_eqI ⟨σ,_,rfl,ok,h⟩)))))
 ·rcases List.mem_singleton.mp hy with rfl;exact .inl rfl
 ·decide
 ·decide
end
end Mine
end
section
set_option maxHeartbeats 400000
namespace Mine
noncomputable def cells0:List Int:=[12,1,2,4,1,5,3,1,10,1,1,6,11,0,5,0,5,6,2,3,10,5,0,4,7]
noncomputable abbrev Rule:=Int×List Int
noncomputable abbrev bodyD (b:List Int):PyData:=.list (b.map fun n=>.str (symS n))
noncomputable abbrev ruleD (r:Rule):PyData:=.tuple [.str (symS r.1),bodyD r.2]
structure Gram (ops:List Int) (rs:List Rule):Prop where
 len:rs.length=6
 ops3:ops.length≤3
 op:∀ x∈ops,IsOp x
 hd:∀ r∈rs,IsNm r.1
 bl:∀ r∈rs,r.2.length≤3
 sy:∀ r∈rs,∀ x∈r.2,IsNm x∨x∈ops
noncomputable def csRules (L:Addr):List (Str×Addr):=[(Str.ofString "symbols",L+3),(Str.ofString "pick",L+2),(Str.ofString "row",L+1)]
theorem fmod_rng {a b:Int} (hb:0 < b):0≤a.fmod b∧a.fmod b < b:=⟨Int.fmod_nonneg_of_pos a hb,Int.fmod_lt_of_pos a hb⟩
theorem get_int {ms:List Int} {k:Nat} (h:k < ms.length):(intsL ms)[k]?=some (.d (.int ms[k])):=by simp [h]
noncomputable def stepAt (pick:Int):Int:=[5,7,11,13].getD (pick.fdiv 48).toNat 0
noncomputable def opAt (pick k:Int):Int:=7+(pick+stepAt pick * k).fmod 48
theorem opAt_op (pick k:Int):IsOp (opAt pick k):=by
 have:=fmod_rng (a:=pick+stepAt pick * k) (b:=48) (by decide)
 unfold opAt IsOp;exact om13 this
theorem opAt_sym {pick k:Int}:∃ h:((pick+stepAt pick * k).fmod 48).toNat < ops48.length,symS (opAt pick k)=ops48[((pick+stepAt pick * k).fmod 48).toNat]:=by
 have:=fmod_rng (a:=pick+stepAt pick * k) (b:=48) (by decide)
 have hl:ops48.length=48:=by decide
 refine ⟨om52 this hl,?_⟩
 have h2:¬(256≤opAt pick k):=by unfold opAt;exact om14 this
 unfold symS
 rw [if_neg h2,show (opAt pick k - 7)=(pick+stepAt pick * k).fmod 48 by unfold opAt;exact om7]
 rw [List.getD_eq_getElem?_getD,List.getElem?_eq_getElem (om52 this hl)]
 rfl
noncomputable def syms7 (pick:Int):List Int:=[256,257,258,259,opAt pick 0,opAt pick 1,opAt pick 2]
noncomputable def symsD (pick:Int):List PyData:=(syms7 pick).map fun n=>.str (symS n)
theorem symsD_eq {pick:Int}:names4.map PyData.str++([0,1,2]:List Int).filterMap (fun k=>some (PyData.str (symS (opAt pick k))))=symsD pick:=rfl
theorem syms7_nm {pick k:Int} (h0:0≤k) (h1:k < 4):IsNm ((syms7 pick).getD k.toNat 0):=by
 obtain rfl | rfl | rfl | rfl:k=0∨k=1∨k=2∨k=3:=by exact om17 h0 h1
 ·exact (show IsNm 256 from ⟨by decide,by decide⟩)
 ·exact (show IsNm 257 from ⟨by decide,by decide⟩)
 ·exact (show IsNm 258 from ⟨by decide,by decide⟩)
 ·exact (show IsNm 259 from ⟨by decide,by decide⟩)
noncomputable def frR (w l l2:Addr) (pick:Int):List (Str×SV):=[(Str.ofString "script",.ref w),(Str.ofString "cells",.ref l),(Str.ofString "symbols",.d (.list (symsD pick))),(Str.ofString "rules",.ref l2)]
noncomputable def sy7 (pick k:Int):Int:=(syms7 pick).getD (k.fmod 7).toNat 0
theorem sy7_mem (pick k:Int):sy7 pick k∈syms7 pick:=by
 have:=fmod_rng (a:=k) (b:=7) (by decide)
 unfold sy7
 rw [List.getD_eq_getElem?_getD,List.getElem?_eq_getElem (by simp [syms7];exact om16 this)]
 exact List.getElem_mem _
theorem symsD_get {pick:Int} {j:Nat} (h:j < 7):((symsD pick).map SV.d)[j]?=some (.d (.str (symS ((syms7 pick).getD j 0)))):=by
 unfold symsD
 rw [List.map_map,List.getElem?_map,List.getD_eq_getElem?_getD,List.getElem?_eq_getElem (by simpa [syms7] using h)]
 rfl
structure GramP (pick:Int) (rs:List Rule):Prop where
 hd:∀ r∈rs,IsNm r.1
 bl:∀ r∈rs,r.2.length≤3
 sy:∀ r∈rs,∀ x∈r.2,x∈syms7 pick
section
variable {G:GC} {A:Around} {σ:Sig} {n:Nat} {Q:SV→Sig→Prop}
theorem W_rules {w:Addr} {vs:List Value} {ns:List Int} (R:Rm (n+2) A) (hw:G.h₀.IsList w vs.toArray) (hI:IntsAre vs ns) (h:∀ ops rs,Gram ops rs→Q (.d (.list (rs.map ruleD))) σ):CallT G.c A (.ref 177) [.ref w] σ Q:=by
 refine C_fnC (f:=177) [(Str.ofString "script",.ref w)] csRules rfl ?_ R (fun F vs p=>?_) (fun L ok=>?_) (fun L=>?_) (fun L y hy=>?_) ?_ ?_ [Str.ofString "script"] rfl ?_ rfl rfl rfl
 ·rfl
 ·exact pr1 (fun v a=>⟨_,fun S=>rfl,.cons ⟨rfl,a⟩ .nil⟩) p
 ·refine T_cons (t_as (t_listV (xs:=intsL cells0) ok (T_spl_ints rfl ⟨rfl,rfl⟩) (by decide) fun l N=>t_st ?_))
  have hl:=N.free
  replace ok:=N.ok
  clear N
  refine t_toI ok (upd_self ..) fun ok=>?_
  rw [upd_upd] at ok ⊢
  refine t_fit [(Str.ofString "script",.ref w),(Str.ofString "cells",.ref l)] ⟨rfl,rfl,trivial⟩ ?_
  refine T_cons (T_forE (ite_enum (R.deeper _) hw hI rfl rfl) (fun i σ'=>∃ ns:List Int,ns.length=25∧σ'=fr (upd σ l (some (.ilist (intsL ns)))) L (csRules L) (mkm [(Str.ofString "script",.ref w),(Str.ofString "cells",.ref l)])) ?_ ?_ ?_ (fun _=>rfl))
  ·exact ⟨cells0,rfl,rfl⟩
  ·rintro i y σ' hy ⟨ms,hms,rfl⟩
   obtain ⟨k,hk,rfl⟩:=enumL_get hy
   refine T_assTup (R.deeper _) ⟨_,rfl,rfl⟩ (t_asN (t_asN ?_)) rfl rfl rfl
   have hr:=fmod_rng (a:=(i:Int)) (b:=25) (by decide)
   have hg:=get_int (ms:=ms) (k:=((i:Int).fmod 25).toNat) (om67 hms hr)
   refine T_cons (T_augSub (t_loc rfl (T_bin (t_loc rfl (T_int (O_mod (by decide) (G_il (.inr ⟨l,rfl,.inl (fr_some ok.re (upd_self ..))⟩) hr.1 (by simp;exact om91 hms) hg (t_loc rfl (O_iadd (s_il ok.re (upd_self ..) hr.1 (by simp;exact om91 hms) (by simp;exact om67 hms hr) fun ok'=>?_))))))))) (fun _ _ _=>rfl))
   refine t_fit [(Str.ofString "script",.ref w),(Str.ofString "cells",.ref l)] ⟨rfl,rfl,trivial⟩ (T_nil ?_)
   refine ⟨ms.set ((i:Int).fmod 25).toNat (ms[((i:Int).fmod 25).toNat]'(om67 hms hr)+k),by simp [hms],?_⟩
   rw [upd_upd]
   congr 2
   simp [intsL]
  ·rintro σ' ⟨ms,hms,rfl⟩
   refine Nx.next ?_
   have ok:=ok.re (o':=.ilist (intsL ms))
   refine T_cons (t_as (t_callG (v:=.ref 172) rfl rfl (t_a0 (W_ops (R.deeper _) (t_stC ok ?_)))))
   have hg:=get_int (ms:=ms) (k:=24) (om90 hms)
   refine T_cons (t_as (T_bin (t_sub slot_list_getitem.lookup (t_loc rfl (T_int ⟨typeIL (.inr ⟨l,rfl,.inl (fr_some ok (upd_self ..))⟩),G_il (.inr ⟨l,rfl,.inl (fr_some ok (upd_self ..))⟩) (by decide) (by simp;exact om91 hms) hg (T_int (O_mod (by decide) (t_stC ok ?_)))⟩)))))
   have hp:=fmod_rng (a:=ms[24]) (b:=192) (by decide)
   generalize (ms[24]).fmod 192=pick at hp
   refine T_cons (t_as (T_bin (T_listF (T_spl_strs (ss:=names4) rfl ⟨names4.map PyData.str,by simp,by decide,t_comp (ys:=[0,1,2]) (fun k:Int=>SV.d (.int k)) (fun k=>some (.str (symS (opAt pick k)))) inj_int (t_callB rfl (by rfl) (by decide) (kept_type _) (t_a1 (T_int (C_range1 fun t u v=>⟨it_range (m:=3) (R.deeper _) (by decide) (by decide) ⟨_,_,rfl⟩,by decide,fun C hC y hy m'=>t_asN ?_,?_⟩))))⟩))))
   ·refine ⟨nofun,fun _=>?_⟩
    have hq:=fmod_rng (a:=pick+stepAt pick * y) (b:=48) (by decide)
    obtain ⟨hlt,hs⟩:=opAt_sym (pick:=pick) (k:=y)
    have hpd:0≤pick.fdiv 48∧pick.fdiv 48 < 4:=by
     rw [Int.fdiv_eq_ediv_of_nonneg _ (by decide)];exact om8 hp
    have hy':y=0∨y=1∨y=2:=by simpa using hy
    have hm:IntMulOk (stepAt pick) y:=.of_right (by rcases hy' with rfl | rfl | rfl <;> decide)
    have hst:([SV.d (.int 5),.d (.int 7),.d (.int 11),.d (.int 13)])[(pick.fdiv 48).toNat]?=some (.d (.int (stepAt pick))):=by
     unfold stepAt
     generalize pick.fdiv 48=q at hpd
     obtain rfl | rfl | rfl | rfl:q=0∨q=1∨q=2∨q=3:=by exact om11 hpd
     all_goals rfl
    have hsq:seqIndex? (pick.fdiv 48) 4=some (pick.fdiv 48).toNat:=by
     generalize pick.fdiv 48=q at hpd
     obtain rfl | rfl | rfl | rfl:q=0∨q=1∨q=2∨q=3:=by exact om11 hpd
     all_goals rfl
    refine t_sub slot_list_getitem.lookup (t_free rfl ok hC (T_bin (T_bin (t_free rfl ok hC (T_bin ?_)))))
    refine t_sub PySem.F.slot_tuple_getitem.lookup (T_tupF (T_spl_ints (ss:=[5,7,11,13]) rfl ⟨[5,7,11,13].map PyData.int,by rfl,by decide,?_⟩))
    refine T_bin (t_free rfl ok hC (T_int (O_div (by decide) (PyProof.noPylong_of_log2 (by decide +kernel)) ⟨typeT ⟨_,rfl,rfl⟩,G_tup ⟨_,rfl,rfl⟩ (om9 hpd) (om12 hpd) hsq hst ?_⟩)))
    refine t_loc rfl (O_mul (O_add (T_int (O_mod (by decide) ⟨typeL asl_strs,G_list asl_strs hq.1 (by decide) (y:=.d (.str (symS (opAt pick y)))) ?_ ⟨rfl,_,rfl⟩⟩))) hm)
    rw [hs,List.getElem?_map,List.getElem?_eq_getElem hlt];rfl
   ·refine O_concatF .d .d (by simp [names4]) (t_stC ok ?_)
    rw [symsD_eq]
    refine T_cons (t_as (t_list0 ok fun l2 N=>t_st ?_))
    have hl2:l2≠l:=fun q=>by have:=N.free;rw [q,upd_self] at this;cases this
    have hσ2:σ l2=none:=by have:=N.free;rwa [upd_ne _ _ hl2] at this
    replace ok:=N.ok
    have nwh:=N.whole
    clear N
    have hll:upd σ l (some (.ilist (intsL ms))) l=some (.ilist (intsL ms)):=upd_self ..
    generalize hσl:upd σ l (some (.ilist (intsL ms)))=σl at ok hll ⊢
    refine t_fit (frR w l l2 pick) ⟨rfl,rfl,rfl,rfl,trivial⟩ ?_
    refine T_cons (t_for (t_callB rfl (by rfl) (by decide) (kept_type _) (t_a3 (T_int (T_int (T_int (C_range3 (by decide) (PyProof.noPylong_of_log2 (by decide +kernel)) fun t u v=>?_)))))))
    refine ⟨rngL 0 4 6,fun i σ'=>∃ rs:List Rule,rs.length=i∧GramP pick rs∧σ'=fr (upd σl l2 (some (.list (rs.map fun r=>.d (ruleD r))))) L (csRules L) (mkm (frR w l l2 pick)),it_range (m:=6) (R.deeper _) (by decide) (by decide) ⟨_,_,rfl⟩,?_,?_,?_⟩
    ·exact ⟨[],rfl,⟨nofun,nofun,nofun⟩,rfl⟩
    ·rintro i y σ' hy ⟨rs,hrs,hgr,rfl⟩
     obtain ⟨hi,rfl⟩:=rngL_get hy
     refine t_asN (opF fun P1 i1=>?_)
     have ok:FrOk (upd σl l2 (some (.list (rs.map fun r=>.d (ruleD r))))) L (csRules L):=ok.re
     have hlI:∀ m',fr (upd σl l2 (some (.list (rs.map fun r=>.d (ruleD r))))) L (csRules L) m' l=some (.ilist (intsL ms)):=fun m'=>fr_some ok (by rw [upd_ne _ _ (Ne.symm hl2)];exact hll)
     generalize hys:(ms.drop (4 * i+1)).take 3=ys
     have hyl:ys.length≤3:=by rw [←hys,List.length_take];exact om82
     refine T_cons (t_asComp (L:=L) (cs:=csRules L) (ys:=ys) (fun k:Int=>SV.d (.int k)) (fun k=>some (.str (symS (sy7 pick k)))) inj_int ?_)
     refine T_slice (t_loc rfl <| T_partSome <| T_bin <| t_loc rfl <| T_int <| O_add <| T_partSome <| T_bin <| t_loc rfl <| T_int <| O_add ?_) (fun _ _=>rfl)
     refine ⟨ms.map PyData.int,_,_,_,_,.inr ⟨l,rfl,.inl ?_⟩,(by simp;exact om91 hms),rfl,rfl,slice_run (om209 hrs hi) (om70) (by simp;exact om249 hms hrs hi),_,_,rfl,?_,om102 hyl,fun C hC y hy m'=>t_asN ⟨nofun,fun _=>?_⟩,?_⟩
     ·rw [hlI];simp
     ·rw [←List.map_drop,←List.map_take,show (ms.drop (0+(i:Int) * 4+1).toNat).take ((0+(i:Int) * 4+4).toNat - (0+(i:Int) * 4+1).toNat)=ys by rw [←hys,show (0+(i:Int) * 4+1).toNat=4 * i+1 by exact om211 hrs hi,show (0+(i:Int) * 4+4).toNat - (4 * i+1)=3 by exact om208 hrs hi]]
      exact it_ints (R.deeper _) ⟨_,_,rfl⟩
     ·have hy7:=fmod_rng (a:=y) (b:=7) (by decide)
      refine t_sub slot_list_getitem.lookup (t_free rfl ok hC (T_bin (t_loc rfl (T_int (O_mod (by decide) ⟨typeL .d,G_list .d hy7.1 (by simp [symsD,syms7]) (symsD_get (om15 hy7)) ⟨rfl,_,rfl⟩⟩)))))
     ·refine Nx.next ?_
      generalize hbv:ys.map (sy7 pick)=bv
      have ebv:ys.filterMap (fun k=>some (PyData.str (symS (sy7 pick k))))=bv.map fun n=>.str (symS n):=by
       rw [←hbv,List.map_map,←List.filterMap_eq_map];rfl
      have hbl:bv.length≤3:=by rw [←hbv,List.length_map];exact hyl
      rw [ebv]
      have hk0:0≤(0:Int)+(i:Int) * 4:=by exact om210 hrs hi
      have hgi:=get_int (ms:=ms) (k:=((0:Int)+(i:Int) * 4).toNat) (om250 hms hrs hi)
      generalize (ms[((0:Int)+(i:Int) * 4).toNat]'(om250 hms hrs hi))=z at hgi
      have hz4:=fmod_rng (a:=z) (b:=4) (by decide)
      have hq4:=fmod_rng (a:=z.fdiv 4) (b:=4) (by decide)
      refine T_cons (t_ex (t_meth m_append (t_loc rfl ⟨oft_list (.ref (fr_some ok (upd_self ..))),t_a1 (T_tupF (T_spl_cons ?_ rfl))⟩)))
      refine t_sub slot_list_getitem.lookup <| t_cell rfl ok <| T_bin <| t_sub slot_list_getitem.lookup <| t_loc rfl <| t_loc rfl ⟨typeIL (.inr ⟨l,rfl,.inl (hlI _)⟩),G_il (.inr ⟨l,rfl,.inl (hlI _)⟩) hk0 (by simp;exact om91 hms) hgi <| T_int <| O_mod (by decide) ⟨typeL .d,G_list .d hz4.1 (by simp [symsD,syms7]) (symsD_get (om10 hz4)) ?_⟩⟩
      refine T_spl_cons (T_slice (t_loc rfl <| T_partNone <| T_partSome <| T_bin <| T_bin <| t_sub slot_list_getitem.lookup <| t_loc rfl <| t_loc rfl ⟨typeIL (.inr ⟨l,rfl,.inl (hlI _)⟩),G_il (.inr ⟨l,rfl,.inl (hlI _)⟩) hk0 (by simp;exact om91 hms) hgi <| T_int <| O_div (by decide) (PyProof.noPylong_of_log2 (by decide +kernel)) <| T_int <| O_mod (by decide) ?_⟩) (fun _ _=>rfl)) rfl
      refine ⟨_,none,_,_,_,.inl .d,(by simp;exact om102 hbl),rfl,rfl,slice_upto hq4.1,T_spl_nil ⟨[_,_],rfl,(by simp),?_⟩⟩
      refine o_append ok (upd_self ..) (by simp;exact om183 hrs hi) fun ok'=>?_
      refine Nx.next (t_fit (frR w l l2 pick) ⟨rfl,rfl,rfl,rfl,trivial⟩ (T_nil ?_))
      refine i1 _ ⟨rs++[((syms7 pick).getD (z.fmod 4).toNat 0,bv.take ((z.fdiv 4).fmod 4).toNat)],by simp [hrs],?_,?_⟩
      ·refine ⟨fun r hr=>?_,fun r hr=>?_,fun r hr x hx=>?_⟩
       ·rcases List.mem_append.mp hr with hr | hr
        ·exact hgr.hd r hr
        ·rw [List.mem_singleton.mp hr];exact syms7_nm hz4.1 hz4.2
       ·rcases List.mem_append.mp hr with hr | hr
        ·exact hgr.bl r hr
        ·rw [List.mem_singleton.mp hr,List.length_take];exact om69 hbl
       ·rcases List.mem_append.mp hr with hr | hr
        ·exact hgr.sy r hr x hx
        ·rw [List.mem_singleton.mp hr] at hx
         have:=List.mem_of_mem_take hx
         rw [←hbv] at this
         obtain ⟨y,_,rfl⟩:=List.mem_map.mp this
         exact sy7_mem _ _
      ·rw [upd_upd]
       simp [ruleD,bodyD]
    ·rintro σ' ⟨rs,hrs,hgr,rfl⟩
     subst hσl
     refine Nx.next ?_
     have ok:FrOk (upd (upd σ l (some (.ilist (intsL ms)))) l2 (some (.list (rs.map fun r=>.d (ruleD r))))) L (csRules L):=ok.re
     refine t_freeze (ds:=rs.map ruleD) [(Str.ofString "rules",.d (.list (rs.map ruleD)))] ok (by rw [upd_self];simp) ⟨.inr ⟨rfl,rfl⟩,trivial⟩ fun ok=>?_
     rw [upd_upd,upd_id (show upd σ l (some (.ilist (intsL ms))) l2=none by rw [upd_ne _ _ hl2];exact hσ2)] at ok ⊢
     refine t_drop ok (upd_self ..) rfl fun ok=>?_
     rw [upd_upd,upd_id hl] at ok ⊢
     refine T_cons (T_ret (t_loc rfl ⟨σ,_,rfl,ok,h [opAt pick 0,opAt pick 1,opAt pick 2] rs ⟨hrs.trans (by simp [rngL]),(by simp),?_,hgr.hd,hgr.bl,fun r hr x hx=>?_⟩⟩))
     ·intro x hx
      simp at hx
      rcases hx with rfl | rfl | rfl <;> exact opAt_op _ _
     ·have:=hgr.sy r hr x hx
      simp [syms7] at this
      rcases this with rfl | rfl | rfl | rfl | h | h | h
      ·exact .inl ⟨by decide,by decide⟩
      ·exact .inl ⟨by decide,by decide⟩
      ·exact .inl ⟨by decide,by decide⟩
      ·exact .inl ⟨by decide,by decide⟩
      ·exact .inr (by simp [h])
      ·exact .inr (by simp [h])
      ·exact .inr (by simp [h])
 ·rfl
 ·rcases List.mem_singleton.mp hy with rfl;exact .inl rfl
 ·decide
 ·decide
 ·decide
end
end Mine
end
section
set_option maxHeartbeats 400000
namespace Mine
theorem symS_inj {a b:Int} (ha:IsSym a) (hb:IsSym b) (h:symS a=symS b):a=b:=by
 rcases ha with ha | ha <;> rcases hb with hb | hb
 ·have h1:=nm_occ ha;rw [h,nm_occ hb] at h1
  have h2:(b - 256).toNat=(a - 256).toNat:=by injection h1
  obtain ⟨x1,x2⟩:=ha;obtain ⟨x3,x4⟩:=hb;exact om46 h2 x1 x2 x3 x4
 ·have h1:=nm_occ ha;rw [h,(op_all hb).1] at h1;cases h1
 ·have h1:=(op_all ha).1;rw [h,nm_occ hb] at h1;cases h1
 ·have h1:=(op_all ha).2.2;rw [h,(op_all hb).2.2] at h1
  obtain ⟨x1,x2⟩:=ha;obtain ⟨x3,x4⟩:=hb;exact om47 h1 x1 x2 x3 x4
section
variable {α:Type}
noncomputable def aget (E:List (Int×α)) (k:Int):Option α:=(E.find? fun p=>p.1=k).map (·.2)
noncomputable def aset (E:List (Int×α)) (k:Int) (v:α):List (Int×α):=if E.any (fun p=>p.1=k) then E.map (fun p=>if p.1=k then (p.1,v) else p) else E++[(k,v)]
noncomputable def symKV (f:α→SV) (E:List (Int×α)):List (Str×SV):=E.map fun p=>(symS p.1,f p.2)
noncomputable def KeysS (E:List (Int×α)):Prop:=∀ p∈E,IsSym p.1
theorem KeysS.nil:KeysS ([]:List (Int×α)):=nofun
theorem KeysS.aset {E:List (Int×α)} {k:Int} {v:α} (h:KeysS E) (hk:IsSym k):KeysS (aset E k v):=by
 unfold Mine.aset
 intro p hp
 split at hp
 ·obtain ⟨q,hq,rfl⟩:=List.mem_map.mp hp
  split
  ·exact h q hq
  ·exact h q hq
 ·rcases List.mem_append.mp hp with hp | hp
  ·exact h p hp
  ·rw [List.mem_singleton.mp hp];exact hk
theorem sym_dec {a b:Int} (ha:IsSym a) (hb:IsSym b):decide (symS a=symS b)=decide (a=b):=by
 by_cases h:a=b
 ·subst h;simp
 ·rw [decide_eq_false h,decide_eq_false fun q=>h (symS_inj ha hb q)]
theorem sget_sym (f:α→SV):∀ {E:List (Int×α)} {k:Int},KeysS E→IsSym k→sget (symKV f E) (symS k)=(aget E k).map f
 | [],_,_,_=>rfl
 | p :: E,k,h,hk=>by
  have ih:=sget_sym f (E:=E) (k:=k) (fun q hq=>h q (.tail _ hq)) hk
  unfold sget aget symKV at *
  rw [List.map_cons,List.find?_cons,List.find?_cons,sym_dec (h p (.head _)) hk]
  by_cases q:p.1=k
  ·simp [q]
  ·simp only [decide_eq_false q];exact ih
theorem sset_sym (f:α→SV) {E:List (Int×α)} {k:Int} {v:α} (h:KeysS E) (hk:IsSym k):sset (symKV f E) (symS k) (f v)=symKV f (aset E k v):=by
 unfold sset Mine.aset symKV
 have e1:∀ {E:List (Int×α)},KeysS E→(E.map fun p=>(symS p.1,f p.2)).any (fun p=>decide (p.1=symS k))=E.any fun p=>decide (p.1=k):=by
  intro E h
  induction E with
  | nil=>rfl
  | cons p r ih=>rw [List.map_cons,List.any_cons,List.any_cons,ih fun q hq=>h q (.tail _ hq),sym_dec (h p (.head _)) hk]
 rw [e1 h]
 split
 ·rw [List.map_map,List.map_map]
  refine List.map_congr_left fun p hp=>?_
  simp only [Function.comp]
  by_cases q:p.1=k
  ·rw [if_pos q,if_pos (by rw [q])]
  ·rw [if_neg q,if_neg fun z=>q (symS_inj (h p hp) hk z)]
 ·simp
theorem symKV_length (f:α→SV) (E:List (Int×α)):(symKV f E).length=E.length:=by simp [symKV]
end
theorem Gram.syN {ops:List Int} {rs:List Rule} (g:Gram ops rs) {r:Rule} (hr:r∈rs) {x:Int} (hx:x∈r.2):IsSym x:=(g.sy r hr x hx).imp id (g.op x)
theorem Gram.hdS {ops:List Int} {rs:List Rule} (g:Gram ops rs) {r:Rule} (hr:r∈rs):IsSym r.1:=.inl (g.hd r hr)
theorem bodyD_inj {a b:List Int} (ha:∀ x∈a,IsSym x) (hb:∀ x∈b,IsSym x) (h:a.map (fun n=>PyData.str (symS n))=b.map fun n=>PyData.str (symS n)):a=b:=by
 induction a generalizing b with
 | nil=>cases b with
  | nil=>rfl
  | cons y r=>simp at h
 | cons x r ih=>cases b with
  | nil=>simp at h
  | cons y s =>
   simp only [List.map_cons,List.cons.injEq,PyData.str.injEq] at h
   rw [symS_inj (ha x (.head _)) (hb y (.head _)) h.1,ih (fun z hz=>ha z (.tail _ hz)) (fun z hz=>hb z (.tail _ hz)) h.2]
theorem ruleD_inj {ops:List Int} {rs:List Rule} (g:Gram ops rs) {a b:Rule} (ha:a∈rs) (hb:b∈rs) (h:SV.d (ruleD a)=SV.d (ruleD b)):a=b:=by
 obtain ⟨a1,a2⟩:=a
 obtain ⟨b1,b2⟩:=b
 simp only [ruleD,bodyD,SV.d.injEq,PyData.tuple.injEq,List.cons.injEq,PyData.str.injEq,PyData.list.injEq,and_true] at h
 have e1:a1=b1:=symS_inj (g.hdS ha) (g.hdS hb) h.1
 have e2:a2=b2:=bodyD_inj (fun x hx=>g.syN ha hx) (fun x hx=>g.syN hb hx) h.2
 rw [e1,e2]
noncomputable def emFresh (rs:List Rule) (E:List (Int×Int)):List Int:=(rs.filter fun r=>(aget E r.1).isNone && r.2.all fun x=>(aget E x).isSome).map (·.1)
noncomputable def emTurn (rs:List Rule) (E:List (Int×Int)) (t:Nat):List (Int×Int):=(emFresh rs E).foldl (fun E n=>aset E n (t:Int)) E
noncomputable def emAt (rs:List Rule) (n:Nat):List (Int×Int):=(List.range n).foldl (emTurn rs) []
noncomputable abbrev svI (t:Int):SV:=.d (.int t)
section
variable {c:Cfg} {A:Around} {σ:Sig} {env:Env} {L C:Addr} {cs:List (Str×Addr)} {m:Str→Option SV} {Q:SV→Sig→Prop}
theorem t_ca {x:Str} {pos:Pos} {v:SV} {a:Addr} (ha:σ a=some (.cell (some v))) (h:Q v σ) (hc:autoParam (env.cells.lookup x=some a) aR) (hk:autoParam (env.scope.kind=.function) aR) (hl:autoParam (env.kindOf x=some .cell) aR)
  (hd:autoParam ((x == ("__debug__":Str))=false) aR) (hd2:autoParam ((x == ("__classdict__":Str))=false) aR):TV c A (eval (.Name x pos) env) σ Q:=T_cellAt ha h hc hk (.inl hl) hd hd2
theorem cell_in {x:Str} {v:SV} {a:Addr} (ok:FrOk σ L cs) (hv:m x=some v) (hc:autoParam (cs.lookup x=some a) aR):fr σ L cs m a=some (.cell (some v)):=by rw [fr_cell ok hc,hv]
theorem in_fr {a:Addr} {o:SObj} (hC:σ C=none) (h:σ a=some o):fr σ C [] m a=some o:=fr_some (frC_ok hC) h
end
theorem it_syms {c:Cfg} {A:Around} {σ:Sig} {n:Nat} {ys:List Int} {target:Expr} (R:Rm n A) (ht:NameT target):ItOf c A target (.d (bodyD ys)) σ (ys.map fun k=>SV.d (.str (symS k))) :=
 it_list R (.inr ⟨_,rfl,by simp⟩) (.inl ht)
theorem nm_ok:((List.range 4).all fun i=>PyData.canLay0 (.str (symS (256+(i:Int)))))=true:=by decide +kernel
theorem op_ok:((List.range 48).all fun i=>PyData.canLay0 (.str (symS (7+(i:Int)))))=true:=by decide +kernel
theorem flat0_sym {n:Int} (h:IsSym n):flat0 (.str (symS n)):=by
 refine ⟨?_,by simp only [PyData.depth]⟩
 rcases h with ⟨h1,h2⟩ | ⟨h1,h2⟩
 ·have:=List.all_eq_true.mp nm_ok (n - 256).toNat (by simp;exact om21 h1 h2)
  rwa [show 256+(((n - 256).toNat:Nat):Int)=n by exact om20 h1 h2] at this
 ·have:=List.all_eq_true.mp op_ok (n - 7).toNat (by simp;exact om29 h1 h2)
  rwa [show 7+(((n - 7).toNat:Nat):Int)=n by exact om27 h1 h2] at this
theorem isSome_sym {α:Type} (f:α→SV) {E:List (Int×α)} {k:Int} (h:KeysS E) (hk:IsSym k):(sget (symKV f E) (symS k)).isSome=(aget E k).isSome:=by rw [sget_sym f h hk];cases aget E k <;> rfl
theorem rng_get {n i:Nat} {y:SV} (h:(rngL 0 1 n)[i]?=some y):i < n∧y=.d (.int i):=by
 obtain ⟨h1,rfl⟩:=rngL_get h
 refine ⟨h1,?_⟩
 rw [show (0:Int)+(i:Int) * 1=i by exact om73]
theorem foldl_take {α β:Type} (f:β→α→β) (b:β) (l:List α) (i:Nat) (x:α) (h:l[i]?=some x):(l.take (i+1)).foldl f b=f ((l.take i).foldl f b) x:=by
 rw [List.take_add_one,h,List.foldl_append];rfl
theorem emTurn_keys {ops:List Int} {rs:List Rule} (g:Gram ops rs) {E:List (Int×Int)} (h:KeysS E) (t:Nat):KeysS (emTurn rs E t):=by
 unfold emTurn
 have hf:∀ n∈emFresh rs E,IsSym n:=fun n hn=>by
  obtain ⟨r,hr,rfl⟩:=List.mem_map.mp hn
  exact g.hdS (List.mem_filter.mp hr).1
 generalize emFresh rs E=fs at hf
 induction fs generalizing E with
 | nil=>exact h
 | cons n r ih=>exact ih (h.aset (hf n (.head _))) fun x hx=>hf x (.tail _ hx)
theorem emAt_succ (rs:List Rule) (n:Nat):emAt rs (n+1)=emTurn rs (emAt rs n) n:=by
 unfold emAt;rw [List.range_succ,List.foldl_append];rfl
theorem emAt_keys {ops:List Int} {rs:List Rule} (g:Gram ops rs):∀ n,KeysS (emAt rs n)
 | 0=>KeysS.nil
 | n+1=>by rw [emAt_succ];exact emTurn_keys g (emAt_keys g n) n
theorem aset_len {α:Type} (E:List (Int×α)) (k:Int) (v:α):(aset E k v).length≤E.length+1:=by
 unfold aset;split <;> simp
theorem emAt_len {ops:List Int} {rs:List Rule} (g:Gram ops rs):∀ n,(emAt rs n).length≤6 * n
 | 0=>Nat.le_refl _
 | n+1=>by
  rw [emAt_succ]
  have h:=emAt_len g n
  unfold emTurn
  have hfl:(emFresh rs (emAt rs n)).length≤6:=by
   unfold emFresh;rw [List.length_map,←g.len];exact List.length_filter_le _ _
  generalize emFresh rs (emAt rs n)=fs at hfl
  suffices ∀ (E:List (Int×Int)),(fs.foldl (fun E k=>aset E k (n:Int)) E).length≤E.length+fs.length by
   have:=this (emAt rs n);exact om302 h hfl this
  intro E
  clear hfl h
  induction fs generalizing E with
  | nil=>exact Nat.le_refl _
  | cons x r ih =>
   have:=ih (aset E x n)
   have:=aset_len E x (n:Int)
   rw [List.foldl_cons,List.length_cons];exact om291 ‹_› this
noncomputable def csEmp (L:Addr):List (Str×Addr):=[(Str.ofString "turns",L+1)]
noncomputable def frE0 (rs:List Rule) (d:Addr):List (Str×SV):=[(Str.ofString "rules",.d (.list (rs.map ruleD))),(Str.ofString "turns",.ref d)]
noncomputable def frE2 (rs:List Rule) (d:Addr) (i:Nat) (fs:List Int):List (Str×SV):=[(Str.ofString "rules",.d (.list (rs.map ruleD))),(Str.ofString "turns",.ref d),(Str.ofString "turn",.d (.int i)),(Str.ofString "fresh",.d (bodyD fs))]
inductive EmJ (σ:Sig) (d L:Addr) (l:List (Str×SV)) (E0:List (Int×Int)) (z:Nat) (σ':Sig):Prop
 | mk (E:List (Int×Int)) (h:E=E0) (hk:KeysS E) (hl:E.length≤z) (e:σ'=fr (upd σ d (some (.dictS (symKV svI E)))) L (csEmp L) (mkm l)):EmJ σ d L l E0 z σ'
section
variable {G:GC} {A:Around} {σ:Sig} {n:Nat} {Q:SV→Sig→Prop}
theorem W_empties {ops:List Int} {rs:List Rule} (R:Rm (n+2) A) (g:Gram ops rs) (h:∀ d,σ d=none→Q (.ref d) (upd σ d (some (.dictS (symKV svI (emAt rs 4)))))):CallT G.c A (.ref 189) [.d (.list (rs.map ruleD))] σ Q:=by
 refine C_fnC (f:=189) [(Str.ofString "rules",.d (.list (rs.map ruleD)))] csEmp rfl ?_ R (fun F vs p=>?_) (fun L ok=>?_) (fun L=>?_) (fun L y hy=>?_) ?_ ?_ [Str.ofString "rules"] rfl ?_ rfl rfl rfl
 ·rfl
 ·exact pr1 (fun v a=>⟨_,fun S=>rfl,.cons ⟨rfl,a⟩ .nil⟩) p
 ·refine T_cons (t_as (t_dict0S ok fun d N=>t_stC N.ok ?_))
  have hd:=N.free
  replace ok:=N.ok
  clear N
  refine t_fit (frE0 rs d) ⟨rfl,rfl,trivial⟩ ?_
  refine T_cons (t_for (t_callB rfl (by rfl) (by decide) (kept_type _) (t_a1 (T_int (C_range1 fun t u v=>?_)))))
  refine ⟨rngL 0 1 4,fun i σ'=>σ'=fr (upd σ d (some (.dictS (symKV svI (emAt rs i))))) L (csEmp L) (mkm (frE0 rs d)),it_range (m:=4) (R.deeper _) (by decide) (by decide) ⟨_,_,rfl⟩,rfl,?_,?_⟩
  ·rintro i y σ' hy rfl
   obtain ⟨hi,rfl⟩:=rng_get hy
   refine t_asN (opF fun P1 i1=>?_)
   have ok:FrOk (upd σ d (some (.dictS (symKV svI (emAt rs i))))) L (csEmp L):=ok.re
   have hk:=emAt_keys g i
   have hlen:=emAt_len g i
   have hsucc:=emAt_succ rs i
   generalize emAt rs i=E0 at ok hk hsucc hlen
   have hfs:∀ n∈emFresh rs E0,IsSym n:=fun n hn=>by
    obtain ⟨r,hr,rfl⟩:=List.mem_map.mp hn
    exact g.hdS (List.mem_filter.mp hr).1
   have hfl:(emFresh rs E0).length≤6:=by
    unfold emFresh;rw [List.length_map,←g.len];exact List.length_filter_le _ _
   refine T_cons (t_asCompM (L:=L) (cs:=csEmp L) (ys:=rs) (fun r=>.d (ruleD r)) (fun r=>if (aget E0 r.1).isNone && r.2.all (fun x=>(aget E0 x).isSome) then some (.str (symS r.1)) else none) (fun a ha b hb e=>by rw [ruleD_inj g ha hb e]) ?_)
   refine t_loc rfl ⟨_,_,rfl,it_list (R.deeper _) (.inr ⟨_,rfl,by simp⟩) (.inr ⟨⟨_,_,_,rfl⟩,fun y hy=>?_⟩),by rw [g.len];decide,fun C hC r hr m'=>?_,?_⟩
   ·obtain ⟨r,_,rfl⟩:=List.mem_map.mp hy
    exact ⟨_,rfl⟩
   ·refine T_assTup (R.deeper _) ⟨_,rfl,rfl⟩ (t_asN (t_asN ?_)) rfl rfl rfl
    have hS1:∀ m',fr (fr (upd σ d (some (.dictS (symKV svI E0)))) L (csEmp L) (setm (mkm (frE0 rs d)) (Str.ofString "turn") (.d (.int (i:Int))))) C [] m' d=some (.dictS (symKV svI E0)):=fun m'=>in_fr hC (fr_some ok (upd_self ..))
    refine T_isBool (T_and_cons (t_isCmp (t_loc rfl <| t_ca (in_fr hC (cell_in (x:=Str.ofString "turns") ok rfl)) <| D_nin (DictR.S (.inl (hS1 _))) KeyR.str <| truth_bool ⟨fun h1=>?_,fun h1=>?_⟩)))
    ·rw [isSome_sym _ hk (g.hdS hr)] at h1
     refine T_and_cons (t_isCmp (t_compM (ys:=r.2) (fun x:Int=>SV.d (.str (symS x))) (fun x=>if (aget E0 x).isNone then some (.str (symS x)) else none) (fun a ha b hb e=>by
      rw [symS_inj (g.syN hr ha) (g.syN hr hb) (by simpa using e)]) (t_loc rfl ⟨it_syms (R.deeper _) ⟨_,_,rfl⟩,by have:=g.bl r hr;exact om102 this,fun C2 hC2 y hy m2=>t_asN ?_,?_⟩)))
     ·refine t_isCmp (t_loc rfl <| t_ca (in_fr hC2 (in_fr hC (cell_in (x:=Str.ofString "turns") ok rfl))) <| D_nin (DictR.S (.inl (in_fr hC2 (hS1 _)))) KeyR.str <| truth_bool ⟨fun h2=>⟨nofun,fun _=>?_⟩,fun h2=>⟨fun _=>?_,nofun⟩⟩)
      ·rw [isSome_sym _ hk (g.syN hr hy)] at h2
       refine t_loc rfl ⟨?_,_,rfl⟩
       cases e:aget E0 y with
       | none=>rfl
       | some z=>rw [e] at h2;cases h2
      ·rw [isSome_sym _ hk (g.syN hr hy)] at h2
       refine ⟨?_,_,rfl⟩
       cases e:aget E0 y with
       | none=>rw [e] at h2;cases h2
       | some z=>rfl
     ·refine T_listF (T_spl_nil ⟨[],rfl,by decide,O_eqNil (R.deeper _) (fun d hd=>?_) (truth_bool ?_)⟩)
      ·obtain ⟨y,hy,e⟩:=List.mem_filterMap.mp hd
       split at e
       ·cases e;exact flat0_sym (g.syN hr hy)
       ·cases e
      ·have he:(r.2.filterMap fun x=>if (aget E0 x).isNone then some (PyData.str (symS x)) else none).isEmpty=r.2.all fun x=>(aget E0 x).isSome:=by
        induction r.2 with
        | nil=>rfl
        | cons x q ih =>
         rw [List.filterMap_cons,List.all_cons]
         cases e:aget E0 x with
         | none=>rfl
         | some z=>simpa using ih
       rw [he]
       have hn:(aget E0 r.1).isNone=true:=by
        cases e:aget E0 r.1 with
        | none=>rfl
        | some z=>rw [e] at h1;cases h1
       refine ⟨fun h2=>T_and_nil ⟨fun _=>⟨nofun,fun _=>t_loc rfl ⟨?_,_,rfl⟩⟩,nofun⟩,fun h2=>⟨nofun,fun _=>⟨fun _=>⟨?_,_,rfl⟩,nofun⟩⟩⟩
       ·rw [hn,h2];rfl
       ·rw [h2];simp
    ·rw [isSome_sym _ hk (g.hdS hr)] at h1
     refine ⟨nofun,fun _=>⟨fun _=>⟨?_,_,rfl⟩,nofun⟩⟩
     have hn:(aget E0 r.1).isNone=false:=by
      cases e:aget E0 r.1 with
      | none=>rw [e] at h1;cases h1
      | some z=>rfl
     rw [hn];rfl
   ·refine Nx.next ?_
    have ef:(rs.filterMap fun r=>if (aget E0 r.1).isNone && r.2.all (fun x=>(aget E0 x).isSome) then some (PyData.str (symS r.1)) else none)=(emFresh rs E0).map fun n=>.str (symS n):=by
     unfold emFresh
     generalize rs=q
     induction q with
     | nil=>rfl
     | cons r q ih =>
      rw [List.filterMap_cons,List.filter_cons]
      split
      ·rename_i hh
       by_cases q2:((aget E0 r.1).isNone && r.2.all fun x=>(aget E0 x).isSome)=true
       ·rw [if_pos q2] at hh;cases hh
       ·rw [if_neg q2,ih]
      ·rename_i b hh
       by_cases q2:((aget E0 r.1).isNone && r.2.all fun x=>(aget E0 x).isSome)=true
       ·rw [if_pos q2] at hh ⊢;cases hh;rw [ih];rfl
       ·rw [if_neg q2] at hh;cases hh
    rw [ef]
    unfold emTurn at hsucc
    generalize emFresh rs E0=fs at hfs hfl hsucc
    refine t_fit (frE2 rs d i fs) ⟨rfl,rfl,rfl,rfl,trivial⟩ ?_
    refine T_cons (t_for (t_loc rfl ⟨_,fun j=>EmJ σ d L (frE2 rs d i fs) ((fs.take j).foldl (fun E n=>aset E n (i:Int)) E0) (18+j),it_syms (R.deeper _) ⟨_,_,rfl⟩,⟨E0,rfl,hk,om202 hi hlen,rfl⟩,?_,?_⟩))
    ·rintro j y σ' hy ⟨E,hE,hkE,hlE,rfl⟩
     obtain ⟨x,hx,rfl⟩:∃ x,fs[j]?=some x∧y=.d (.str (symS x)):=by
      rw [List.getElem?_map] at hy
      obtain ⟨x,hx,rfl⟩:=Option.map_eq_some_iff.mp hy
      exact ⟨x,hx,rfl⟩
     have ok:FrOk (upd σ d (some (.dictS (symKV svI E)))) L (csEmp L):=ok.re
     have hxs:=hfs x (List.mem_of_getElem? hx)
     refine t_asN (opF fun P2 i2=>T_cons (T_assignSub (t_loc rfl <| t_cell rfl ok <| t_loc rfl <| s_dictS ok (upd_self ..) ?_ fun ok'=>?_) rfl))
     ·have:=(List.getElem?_eq_some_iff.mp hx).1
      rw [symKV_length];exact om261 hfl hlE this
     ·refine Nx.next (t_fit (frE2 rs d i fs) ⟨rfl,rfl,rfl,rfl,trivial⟩ (T_nil ?_))
      refine i2 _ ⟨aset E x i,?_,hkE.aset hxs,(by have:=aset_len E x (i:Int);exact om273 hlE this),?_⟩
      ·rw [foldl_take _ _ _ _ _ hx,←hE]
      ·rw [upd_upd,←sset_sym svI hkE hxs]
    ·rintro σ' ⟨E,hE,hkE,hlE,rfl⟩
     have:(fs.map fun k=>SV.d (.str (symS k))).length=fs.length:=by simp
     rw [this,List.take_length] at hE
     refine Nx.next (t_fit (frE0 rs d) ⟨rfl,rfl,trivial⟩ (T_nil (i1 _ ?_)))
     show _=fr (upd σ d (some (.dictS (symKV svI (emAt rs (i+1)))))) L (csEmp L) _
     rw [hsucc,hE]
  ·rintro σ' rfl
   have hl4:(rngL 0 1 4).length=4:=by simp [rngL]
   rw [hl4]
   have ok:FrOk (upd σ d (some (.dictS (symKV svI (emAt rs 4))))) L (csEmp L):=ok.re
   exact Nx.next (T_cons (T_ret (t_cell rfl ok ⟨_,_,rfl,ok,h d hd⟩)))
 ·rfl
 ·rcases List.mem_singleton.mp hy with rfl;exact .inl rfl
 ·decide
 ·decide
 ·decide
end
end Mine
end
section
set_option maxHeartbeats 400000
namespace Mine
noncomputable abbrev FMap:=Int→List Int
noncomputable def fset (f:FMap) (n:Int) (ys:List Int):FMap:=fun k=>if k=n then ys else f k
noncomputable def addX (f:FMap) (n x:Int):FMap:=if x∈f n then f else fset f n (f n++[x])
noncomputable def addAll (f:FMap) (n:Int) (xs:List Int):FMap:=xs.foldl (fun f x=>addX f n x) f
noncomputable def frGet (f:FMap) (s:Int):List Int:=if s < 256 then [] else f s
noncomputable def scan (emp:Int→Bool) (n:Int):FMap→List Int→FMap
 | f,[]=>f
 | f,s :: r=>if emp s then scan emp n (addAll f n (s :: frGet f s)) r else addAll f n (s :: frGet f s)
noncomputable def frTurn (emp:Int→Bool) (rs:List Rule) (f:FMap):FMap:=rs.foldl (fun f r=>scan emp r.1 f r.2) f
noncomputable def frAt (emp:Int→Bool) (rs:List Rule) (n:Nat):FMap:=(List.range n).foldl (fun f _=>frTurn emp rs f) (fun _=>[])
noncomputable abbrev symL (ys:List Int):List SV:=strsL (ys.map symS)
structure FrInv (ops:List Int) (f:FMap):Prop where
 nd:∀ n,(f n).Nodup
 el:∀ n,∀ x∈f n,IsNm x∨x∈ops
theorem nodup_len {α:Type} [DecidableEq α]:∀ {l m:List α},l.Nodup→(∀ x∈l,x∈m)→l.length≤m.length
 | [],_,_,_=>Nat.zero_le _
 | x :: r,m,hn,hs=>by
  rw [List.nodup_cons] at hn
  have hx:=hs x (.head _)
  have:=nodup_len (l:=r) (m:=m.erase x) hn.2 fun y hy=>(List.mem_erase_of_ne (fun q:y=x=>hn.1 (by rw [←q];exact hy))).mpr (hs y (.tail _ hy))
  rw [List.length_erase_of_mem hx] at this
  have:0 < m.length:=List.length_pos_of_mem hx
  rw [List.length_cons];exact om198 ‹_› this
theorem FrInv.len {ops:List Int} {f:FMap} (h:FrInv ops f) (ho:ops.length≤3) (n:Int):(f n).length≤7:=by
 have:=nodup_len (h.nd n) (m:=[256,257,258,259]++ops) fun x hx=>by
  rcases h.el n x hx with ⟨h1,h2⟩ | h
  ·have:x=256∨x=257∨x=258∨x=259:=by exact om22 h1 h2
   rcases this with rfl | rfl | rfl | rfl <;> simp
  ·exact List.mem_append_right _ h
 simp at this;exact om221 ho this
theorem FrInv.nil {ops:List Int}:FrInv ops (fun _=>[]):=⟨fun _=>List.Pairwise.nil,nofun⟩
theorem FrInv.addX {ops:List Int} {f:FMap} (h:FrInv ops f) {n x:Int} (hx:IsNm x∨x∈ops):FrInv ops (addX f n x):=by
 unfold Mine.addX
 split
 ·exact h
 ·rename_i hn
  refine ⟨fun k=>?_,fun k y hy=>?_⟩
  ·unfold fset
   split
   ·rw [List.nodup_append]
    exact ⟨h.nd n,by simp,fun a ha b hb=>by rw [List.mem_singleton.mp hb];rintro rfl;exact hn ha⟩
   ·exact h.nd k
  ·unfold fset at hy
   split at hy
   ·rcases List.mem_append.mp hy with hy | hy
    ·exact h.el n y hy
    ·rw [List.mem_singleton.mp hy];exact hx
   ·exact h.el k y hy
theorem FrInv.addAll {ops:List Int}:∀ {xs:List Int} {f:FMap} {n:Int},FrInv ops f→(∀ x∈xs,IsNm x∨x∈ops)→FrInv ops (addAll f n xs)
 | [],_,_,h,_=>h
 | x :: r,f,n,h,hx=>FrInv.addAll (xs:=r) (h.addX (hx x (.head _))) fun y hy=>hx y (.tail _ hy)
theorem FrInv.get {ops:List Int} {f:FMap} (h:FrInv ops f) (s:Int):∀ x∈frGet f s,IsNm x∨x∈ops:=fun x hx=>by
 unfold frGet at hx
 split at hx
 ·cases hx
 ·exact h.el s x hx
theorem FrInv.scan {ops:List Int} {emp:Int→Bool} {n:Int}:∀ {b:List Int} {f:FMap},FrInv ops f→(∀ x∈b,IsNm x∨x∈ops)→FrInv ops (scan emp n f b)
 | [],_,h,_=>h
 | s :: r,f,h,hb=>by
  have h1:FrInv ops (Mine.addAll f n (s :: frGet f s)):=h.addAll fun x hx=>by
   rcases List.mem_cons.mp hx with rfl | hx
   ·exact hb x (.head _)
   ·exact h.get s x hx
  unfold Mine.scan
  split
  ·exact FrInv.scan h1 fun x hx=>hb x (.tail _ hx)
  ·exact h1
noncomputable def layF (σ:Sig) (a0 a1 a2 a3:Addr) (f:FMap):Sig:=upd (upd (upd (upd σ a0 (some (.list (symL (f 256))))) a1 (some (.list (symL (f 257))))) a2 (some (.list (symL (f 258))))) a3 (some (.list (symL (f 259))))
noncomputable def alF (a0 a1 a2 a3:Addr) (n:Int):Addr:=if n=256 then a0 else if n=257 then a1 else if n=258 then a2 else a3
structure Four (a0 a1 a2 a3:Addr):Prop where
 h01:a0≠a1
 h02:a0≠a2
 h03:a0≠a3
 h12:a1≠a2
 h13:a1≠a3
 h23:a2≠a3
theorem nm_cases {n:Int} (h:IsNm n):n=256∨n=257∨n=258∨n=259:=by obtain ⟨h1,h2⟩:=h;exact om22 h1 h2
section
variable {σ:Sig} {a0 a1 a2 a3:Addr} {f:FMap} {n:Int}
theorem layF_get (h4:Four a0 a1 a2 a3) (h:IsNm n):layF σ a0 a1 a2 a3 f (alF a0 a1 a2 a3 n)=some (.list (symL (f n))):=by
 unfold layF
 rcases nm_cases h with rfl | rfl | rfl | rfl
 ·show upd _ _ _ a0=_
  rw [upd_ne _ _ h4.h03,upd_ne _ _ h4.h02,upd_ne _ _ h4.h01,upd_self]
 ·show upd _ _ _ a1=_
  rw [upd_ne _ _ h4.h13,upd_ne _ _ h4.h12,upd_self]
 ·show upd _ _ _ a2=_
  rw [upd_ne _ _ h4.h23,upd_self]
 ·show upd _ _ _ a3=_
  rw [upd_self]
theorem layF_set (h4:Four a0 a1 a2 a3) (h:IsNm n) (ys:List Int):upd (layF σ a0 a1 a2 a3 f) (alF a0 a1 a2 a3 n) (some (.list (symL ys)))=layF σ a0 a1 a2 a3 (fset f n ys):=by
 unfold layF
 rcases nm_cases h with rfl | rfl | rfl | rfl
 ·show upd _ a0 _=_
  rw [upd_comm _ _ _ (Ne.symm h4.h03),upd_comm _ _ _ (Ne.symm h4.h02),upd_comm _ _ _ (Ne.symm h4.h01),upd_upd];rfl
 ·show upd _ a1 _=_
  rw [upd_comm _ _ _ (Ne.symm h4.h13),upd_comm _ _ _ (Ne.symm h4.h12),upd_upd];rfl
 ·show upd _ a2 _=_
  rw [upd_comm _ _ _ (Ne.symm h4.h23),upd_upd];rfl
 ·show upd _ a3 _=_
  rw [upd_upd];rfl
theorem layF_off {b:Addr} (h0:b≠a0) (h1:b≠a1) (h2:b≠a2) (h3:b≠a3):layF σ a0 a1 a2 a3 f b=σ b:=by
 unfold layF;rw [upd_ne _ _ h3,upd_ne _ _ h2,upd_ne _ _ h1,upd_ne _ _ h0]
theorem layF_ok {L:Addr} {cs:List (Str×Addr)} {f f':FMap} (ok:FrOk (layF σ a0 a1 a2 a3 f) L cs):FrOk (layF σ a0 a1 a2 a3 f') L cs:=by
 have iff:∀ b,layF σ a0 a1 a2 a3 f b=none→layF σ a0 a1 a2 a3 f' b=none:=fun b hb=>by
  unfold layF upd at *
  split at hb
  ·cases hb
  split at hb
  ·cases hb
  split at hb
  ·cases hb
  split at hb
  ·cases hb
  simp_all
 exact ⟨iff _ ok.free,fun p hp=>⟨iff _ (ok.cell p hp).1,(ok.cell p hp).2⟩,ok.names,ok.apart⟩
end
noncomputable def frKV (a0 a1 a2 a3:Addr):List (Str×SV):=[(symS 256,.ref a0),(symS 257,.ref a1),(symS 258,.ref a2),(symS 259,.ref a3)]
theorem keys4 {α:Type} (a b c d:α):KeysS [((256:Int),a),(257,b),(258,c),(259,d)]:=by
 intro p hp
 simp at hp
 rcases hp with rfl | rfl | rfl | rfl
 ·exact .inl (show IsNm 256 from ⟨by decide,by decide⟩)
 ·exact .inl (show IsNm 257 from ⟨by decide,by decide⟩)
 ·exact .inl (show IsNm 258 from ⟨by decide,by decide⟩)
 ·exact .inl (show IsNm 259 from ⟨by decide,by decide⟩)
theorem frKV_get {a0 a1 a2 a3:Addr} {n:Int} (h:IsNm n):sget (frKV a0 a1 a2 a3) (symS n)=some (.ref (alF a0 a1 a2 a3 n)):=by
 have:frKV a0 a1 a2 a3=symKV (fun a:Addr=>SV.ref a) [(256,a0),(257,a1),(258,a2),(259,a3)]:=rfl
 rw [this,sget_sym _ (keys4 _ _ _ _) (.inl h)]
 rcases nm_cases h with rfl | rfl | rfl | rfl <;> rfl
theorem frKV_op {a0 a1 a2 a3:Addr} {n:Int} (h:IsOp n):sget (frKV a0 a1 a2 a3) (symS n)=none:=by
 have:frKV a0 a1 a2 a3=symKV (fun a:Addr=>SV.ref a) [(256,a0),(257,a1),(258,a2),(259,a3)]:=rfl
 rw [this,sget_sym _ (keys4 _ _ _ _) (.inr h)]
 obtain ⟨h1,h2⟩:=h
 have:aget [((256:Int),a0),(257,a1),(258,a2),(259,a3)] n=none:=by
  unfold aget
  rw [List.find?_eq_none.mpr];rfl
  intro p hp
  simp at hp
  rcases hp with rfl | rfl | rfl | rfl <;> simp <;> (first | exact om30 h1 h2 | exact om31 h1 h2 | exact om32 h1 h2 | exact om33 h1 h2)
 rw [this];rfl
theorem drop_cons {α:Type} {l:List α} {j:Nat} {x:α} (h:l[j]?=some x):l.drop j=x :: l.drop (j+1):=by
 obtain ⟨h1,rfl⟩:=List.getElem?_eq_some_iff.mp h
 exact List.drop_eq_getElem_cons h1
theorem any_sym {ys:List Int} {k:Int} (hy:∀ x∈ys,IsSym x) (hk:IsSym k):(ys.map symS).any (· == symS k)=decide (k∈ys):=by
 induction ys with
 | nil=>rfl
 | cons y r ih =>
  rw [List.map_cons,List.any_cons,ih fun x hx=>hy x (.tail _ hx)]
  by_cases q:y=k
  ·subst q;simp
  ·have:(symS y == symS k)=false:=by simpa using fun z=>q (symS_inj (hy y (.head _)) hk z)
   rw [this]
   simp [Ne.symm q]
theorem FrInv.sym {ops:List Int} {rs:List Rule} {f:FMap} (h:FrInv ops f) (g:Gram ops rs) (n:Int):∀ x∈f n,IsSym x:=fun x hx=>(h.el n x hx).imp id (g.op x)
theorem frAt_succ (emp:Int→Bool) (rs:List Rule) (n:Nat):frAt emp rs (n+1)=frTurn emp rs (frAt emp rs n):=by
 unfold frAt;rw [List.range_succ,List.foldl_append];rfl
theorem frz_step {S:Sig} {a d:Addr} {o:SObj} {x y:Option SObj} (hS:S a=none) (h:a≠d):upd (upd (upd (upd S a (some o)) d x) a none) d y=upd S d y:=by
 funext b
 by_cases q:b=d
 ·subst q;rw [upd_self,upd_self]
 ·rw [upd_ne _ _ q,upd_ne _ _ q]
  by_cases r:b=a
  ·subst r;rw [upd_self,hS]
  ·rw [upd_ne _ _ r,upd_ne _ _ q,upd_ne _ _ r]
theorem symL_d (ys:List Int):symL ys=(ys.map fun n=>PyData.str (symS n)).map SV.d:=by simp [Function.comp_def]
theorem lay_new {σ:Sig} {L:Addr} {cs:List (Str×Addr)} {m:Str→Option SV} {a b:Addr} {o:SObj} (h:fr σ L cs m a=none) (h2:σ b=some o):b≠a:=fun q=>by
 have:=(fr_none h).2.2;rw [←q,h2] at this;cases this
inductive FrJ (ops:List Int) (σd:Sig) (a0 a1 a2 a3 L:Addr) (l:List (Str×SV)) (p:FMap→Prop) (σ':Sig):Prop
 | mk (f:FMap) (inv:FrInv ops f) (h:p f) (e:σ'=fr (layF σd a0 a1 a2 a3 f) L [] (mkm l)):FrJ ops σd a0 a1 a2 a3 L l p σ'
section
variable {G:GC} {A:Around} {σ:Sig} {n:Nat} {Q:SV→Sig→Prop}
noncomputable def frN1 (rs:List Rule) (e d:Addr) (r:Rule):List (Str×SV):=[(Str.ofString "rules",.d (.list (rs.map ruleD))),(Str.ofString "empties",.ref e),(Str.ofString "fronts",.ref d),(Str.ofString "name",.d (.str (symS r.1))),(Str.ofString "body",.d (bodyD r.2))]
noncomputable def frN2 (rs:List Rule) (e d:Addr) (r:Rule) (x:Int):List (Str×SV):=[(Str.ofString "rules",.d (.list (rs.map ruleD))),(Str.ofString "empties",.ref e),(Str.ofString "fronts",.ref d),(Str.ofString "name",.d (.str (symS r.1))),(Str.ofString "body",.d (bodyD r.2)),(Str.ofString "symbol",.d (.str (symS x)))]
noncomputable def frN0 (rs:List Rule) (e d:Addr):List (Str×SV):=[(Str.ofString "rules",.d (.list (rs.map ruleD))),(Str.ofString "empties",.ref e),(Str.ofString "fronts",.ref d)]
theorem W_fronts {ops:List Int} {rs:List Rule} {e:Addr} {E:List (Int×Int)} (R:Rm (n+2) A) (g:Gram ops rs) (hE:KeysS E) (he0:Rd σ e (.dictS (symKV svI E)))
  (h:∀ d,σ d=none→Q (.ref d) (upd σ d (some (.dictS (symKV (fun ys=>.d (bodyD ys)) ([256,257,258,259].map fun k=>(k,frAt (fun s=>(aget E s).isSome) rs 4 k))))))):CallT G.c A (.ref 196) [.d (.list (rs.map ruleD)),.ref e] σ Q:=by
 obtain ⟨oe,he,hoe⟩:∃ oe,σ e=some oe∧(∀ (σ':Sig),σ' e=some oe→Rd σ' e (.dictS (symKV svI E))):=he0.elim (fun h=>⟨_,h,fun _ h=>.inl h⟩) fun h=>⟨_,h,fun _ h=>.inr h⟩
 refine C_fnC (f:=196) [(Str.ofString "rules",.d (.list (rs.map ruleD))),(Str.ofString "empties",.ref e)] (fun _=>[]) rfl ?_ R (fun F vs p=>?_) (fun L ok=>?_) (fun L=>?_) (fun L y hy=>?_) ?_ ?_ [Str.ofString "rules",Str.ofString "empties"] rfl ?_ rfl rfl rfl
 ·rfl
 ·exact pr2 (fun v a w b=>⟨_,fun S=>rfl,.cons ⟨rfl,a⟩ (.cons ⟨rfl,b⟩ .nil)⟩) p
 ·generalize hemp:(fun s=>(aget E s).isSome)=emp at h
  refine T_cons (t_as (T_dictD fun d hd=>?_))
  have hdσ:=(fr_none hd).2.2
  have hed:=lay_new hd he
  rw [upd_fr_none _ hd]
  have ok:=ok.new (some (.dictS [])) hd
  refine TP_cons (T_str ⟨rfl,T_list (T_spl_nil ⟨Nat.zero_le _,fun a0 h0=>?_⟩)⟩)
  have hd0:=lay_new h0 (upd_self ..)
  rw [upd_fr_none _ h0]
  have ok:=ok.new (some (.list [])) h0
  refine TP_cons (T_str ⟨rfl,T_list (T_spl_nil ⟨Nat.zero_le _,fun a1 h1=>?_⟩)⟩)
  have h01:=lay_new h1 (upd_self ..)
  have hd1:=lay_new h1 (show _=some _ by rw [upd_ne _ _ hd0];exact upd_self ..)
  rw [upd_fr_none _ h1]
  have ok:=ok.new (some (.list [])) h1
  refine TP_cons (T_str ⟨rfl,T_list (T_spl_nil ⟨Nat.zero_le _,fun a2 h2=>?_⟩)⟩)
  have h12:=lay_new h2 (upd_self ..)
  have h02:=lay_new h2 (show _=some _ by rw [upd_ne _ _ h01];exact upd_self ..)
  have hd2:=lay_new h2 (show _=some _ by rw [upd_ne _ _ hd1,upd_ne _ _ hd0];exact upd_self ..)
  rw [upd_fr_none _ h2]
  have ok:=ok.new (some (.list [])) h2
  refine TP_cons (T_str ⟨rfl,T_list (T_spl_nil ⟨Nat.zero_le _,fun a3 h3=>?_⟩)⟩)
  have h23:=lay_new h3 (upd_self ..)
  have h13:=lay_new h3 (show _=some _ by rw [upd_ne _ _ h12];exact upd_self ..)
  have h03:=lay_new h3 (show _=some _ by rw [upd_ne _ _ h02,upd_ne _ _ h01];exact upd_self ..)
  have hd3:=lay_new h3 (show _=some _ by rw [upd_ne _ _ hd2,upd_ne _ _ hd1,upd_ne _ _ hd0];exact upd_self ..)
  have e0:=lay_new h0 (show _=some _ by rw [upd_ne _ _ hed];exact he)
  have e1:=lay_new h1 (show _=some _ by rw [upd_ne _ _ e0,upd_ne _ _ hed];exact he)
  have e2:=lay_new h2 (show _=some _ by rw [upd_ne _ _ e1,upd_ne _ _ e0,upd_ne _ _ hed];exact he)
  have e3:=lay_new h3 (show _=some _ by rw [upd_ne _ _ e2,upd_ne _ _ e1,upd_ne _ _ e0,upd_ne _ _ hed];exact he)
  have n0:=(fr_none h0).2.2
  have n1:=(fr_none h1).2.2
  have n2:=(fr_none h2).2.2
  have n3:=(fr_none h3).2.2
  rw [upd_fr_none _ h3]
  have ok:=ok.new (some (.list [])) h3
  have hdS:upd (upd (upd (upd (upd σ d (some (.dictS []))) a0 (some (.list []))) a1 (some (.list []))) a2 (some (.list []))) a3 (some (.list [])) d=some (.dictS []):=by
   rw [upd_ne _ _ hd3,upd_ne _ _ hd2,upd_ne _ _ hd1,upd_ne _ _ hd0,upd_self]
  refine TP_nil ⟨fr_some ok hdS,?_⟩
  rw [upd_fr_some ok _ hdS]
  have ok:=ok.set (some (.dictS (frKV a0 a1 a2 a3))) hdS
  have hlay:upd (upd (upd (upd (upd (upd σ d (some (.dictS []))) a0 (some (.list []))) a1 (some (.list []))) a2 (some (.list []))) a3 (some (.list []))) d (some (.dictS (frKV a0 a1 a2 a3)))=layF (upd σ d (some (.dictS (frKV a0 a1 a2 a3)))) a0 a1 a2 a3 (fun _=>[]):=by
   rw [upd_comm _ _ _ (Ne.symm hd3),upd_comm _ _ _ (Ne.symm hd2),upd_comm _ _ _ (Ne.symm hd1),upd_comm _ _ _ (Ne.symm hd0),upd_upd];rfl
  show T1 _ _ _ _ _ (fr (upd _ d (some (.dictS (frKV a0 a1 a2 a3)))) _ _ _) _
  rw [hlay] at ok ⊢
  have h4:Four a0 a1 a2 a3:=⟨h01,h02,h03,h12,h13,h23⟩
  refine t_st ?_
  clear hdS hlay h0 h1 h2 h3 h01 h02 h03 h12 h13 h23 hd
  refine t_fit (frN0 rs e d) ⟨rfl,rfl,rfl,trivial⟩ ?_
  have hdr:∀ f,layF (upd σ d (some (.dictS (frKV a0 a1 a2 a3)))) a0 a1 a2 a3 f d=some (.dictS (frKV a0 a1 a2 a3)):=fun f=>by rw [layF_off hd0 hd1 hd2 hd3,upd_self]
  have her:∀ f,layF (upd σ d (some (.dictS (frKV a0 a1 a2 a3)))) a0 a1 a2 a3 f e=some oe:=fun f=>by rw [layF_off e0 e1 e2 e3,upd_ne _ _ hed,he]
  generalize hσd:upd σ d (some (.dictS (frKV a0 a1 a2 a3)))=σd at ok hdr her ⊢
  refine T_cons (t_for (t_callB rfl (by rfl) (by decide) (kept_type _) (t_a1 (T_int (C_range1 fun t u v=>?_)))))
  refine ⟨rngL 0 1 4,fun i σ'=>FrInv ops (frAt emp rs i)∧σ'=fr (layF σd a0 a1 a2 a3 (frAt emp rs i)) L [] (mkm (frN0 rs e d)),it_range (m:=4) (R.deeper _) (by decide) (by decide) ⟨_,_,rfl⟩,⟨.nil,rfl⟩,?_,?_⟩
  ·rintro i y σ' hy ⟨inv,rfl⟩
   obtain ⟨hi,rfl⟩:=rng_get hy
   refine t_asN (t_fit (frN0 rs e d) ⟨rfl,rfl,rfl,trivial⟩ (opF fun P1 i1=>?_))
   have hsucc:=frAt_succ emp rs i
   generalize frAt emp rs i=f0 at inv hsucc
   refine T_cons (t_for (t_loc rfl ⟨_,fun j=>FrJ ops σd a0 a1 a2 a3 L (frN0 rs e d) fun f=>frTurn emp rs f0=(rs.drop j).foldl (fun f r=>scan emp r.1 f r.2) f,it_list (xs:=rs.map fun r=>.d (ruleD r)) (R.deeper _) (.inr ⟨_,rfl,by simp⟩) (.inr ⟨⟨_,_,_,rfl⟩,fun y hy=>?_⟩),⟨f0,inv,rfl,rfl⟩,?_,?_⟩))
   ·obtain ⟨r,_,rfl⟩:=List.mem_map.mp hy
    exact ⟨_,rfl⟩
   ·rintro j y σ' hy ⟨f1,inv,hf1,rfl⟩
    rw [List.getElem?_map] at hy
    obtain ⟨r,hr,rfl⟩:=Option.map_eq_some_iff.mp hy
    have hrm:=List.mem_of_getElem? hr
    rw [drop_cons hr,List.foldl_cons] at hf1
    refine T_assTup (R.deeper _) ⟨_,rfl,rfl⟩ (t_asN (t_asN ?_)) rfl rfl rfl
    refine t_fit (frN1 rs e d r) ⟨rfl,rfl,rfl,rfl,rfl,trivial⟩ (opF fun P2 i2=>?_)
    refine T_cons (t_for (t_loc rfl ⟨_,fun k=>FrJ ops σd a0 a1 a2 a3 L (frN1 rs e d r) fun f=>scan emp r.1 f1 r.2=scan emp r.1 f (r.2.drop k),it_syms (R.deeper _) ⟨_,_,rfl⟩,⟨f1,inv,rfl,rfl⟩,?_,?_⟩))
    ·rintro k y σ' hy ⟨f2,inv2,hf2,rfl⟩
     rw [List.getElem?_map] at hy
     obtain ⟨x,hx,rfl⟩:=Option.map_eq_some_iff.mp hy
     have hxm:=List.mem_of_getElem? hx
     have hxs:=g.syN hrm hxm
     rw [drop_cons hx] at hf2
     refine t_asN (t_fit (frN2 rs e d r x) ⟨rfl,rfl,rfl,rfl,rfl,rfl,trivial⟩ (opF fun P3 i3=>?_))
     have ok:=layF_ok (f':=f2) ok
     refine T_cons (t_for (T_bin (T_listF (T_spl_cons (t_loc rfl (T_spl_nil ⟨[.str (symS x)],rfl,by simp,t_meth m_get (t_loc rfl ⟨oft_dict (DictR.S (.inl (fr_some ok (hdr f2)))),t_a2 (t_loc rfl (T_listF (T_spl_nil ⟨[],rfl,by simp,D_get2 (DictR.S (.inl (fr_some ok (hdr f2)))) KeyR.str ?_⟩)))⟩)⟩)) rfl))))
     have hgl:(frGet f2 x).length≤7:=by
      unfold frGet
      split
      ·simp
      ·exact inv2.len g.ops3 x
     have hz:AsList (fr (layF σd a0 a1 a2 a3 f2) L [] (mkm (frN2 rs e d r x))) ((sget (frKV a0 a1 a2 a3) (symS x)).getD (.d (.list []))) (((frGet f2 x).map fun n=>PyData.str (symS n)).map SV.d):=by
      rcases hxs with hn | ho
      ·rw [frKV_get hn]
       have:frGet f2 x=f2 x:=by unfold frGet;rw [if_neg (by have:=hn.1;exact om25 this)]
       rw [this]
       have:=AsList.ref (fr_some (m:=mkm (frN2 rs e d r x)) ok (layF_get (σ:=σd) (f:=f2) h4 hn))
       simpa [Function.comp_def] using this
      ·rw [frKV_op ho]
       have:frGet f2 x=[]:=by unfold frGet;rw [if_pos (by have:=ho.2;exact om39 this)]
       rw [this];exact .d
     refine O_concatF (ds:=[.str (symS x)]) (es:=(frGet f2 x).map fun n=>PyData.str (symS n)) .d hz (by simp;exact om122 hgl) ?_
     rw [show [PyData.str (symS x)]++(frGet f2 x).map (fun n=>PyData.str (symS n))=(x :: frGet f2 x).map (fun n=>PyData.str (symS n)) from rfl]
     refine ⟨_,fun l=>FrJ ops σd a0 a1 a2 a3 L (frN2 rs e d r x) fun f=>addAll f2 r.1 (x :: frGet f2 x)=addAll f r.1 ((x :: frGet f2 x).drop l),it_syms (R.deeper _) ⟨_,_,rfl⟩,⟨f2,inv2,rfl,rfl⟩,?_,?_⟩
     ·rintro l y σ' hy ⟨f3,inv3,hf3,rfl⟩
      rw [List.getElem?_map] at hy
      obtain ⟨z,hzz,rfl⟩:=Option.map_eq_some_iff.mp hy
      have hzm:=List.mem_of_getElem? hzz
      have hzo:IsNm z∨z∈ops:=by
       rcases List.mem_cons.mp hzm with rfl | h
       ·exact g.sy r hrm _ hxm
       ·exact inv2.get x z h
      have hzs:IsSym z:=hzo.imp id (g.op z)
      have hn:=g.hd r hrm
      rw [drop_cons hzz] at hf3
      have ok:=layF_ok (f':=f3) ok
      have hget:∀ m',fr (layF σd a0 a1 a2 a3 f3) L [] m' (alF a0 a1 a2 a3 r.1)=some (.list (symL (f3 r.1))):=fun m'=>fr_some ok (layF_get h4 hn)
      refine t_asN (opF fun P4 i4=>T_cons (T_if (t_isCmp (t_loc rfl <| t_sub slot_dict_getitem.lookup (t_loc rfl <| t_loc rfl ⟨typeD (DictR.S (.inl (fr_some ok (hdr f3)))),G_dict (DictR.S (.inl (fr_some ok (hdr f3)))) KeyR.str (frKV_get hn) <| O_ninS (AsList.ref (hget _)) <| truth_bool ⟨fun hb=>?_,fun hb=>?_⟩⟩)))))
      ·rw [any_sym (inv3.sym g _) hzs] at hb
       have hb:z∉f3 r.1:=by simpa using hb
       refine T_cons (t_ex (t_meth m_append (t_sub slot_dict_getitem.lookup (t_loc rfl <| t_loc rfl ⟨typeD (DictR.S (.inl (fr_some ok (hdr f3)))),G_dict (DictR.S (.inl (fr_some ok (hdr f3)))) KeyR.str (frKV_get hn) ⟨oft_list (AsList.ref (hget _)),t_a1 (t_loc rfl <| o_append ok (layF_get h4 hn) (by have:=inv3.len g.ops3 r.1;simp;exact om124 this) fun ok'=>?_)⟩⟩))))
       refine Nx.next (T_nil (Nx.next (t_fit (frN2 rs e d r x) ⟨rfl,rfl,rfl,rfl,rfl,rfl,trivial⟩ (T_nil ?_))))
       refine i4 _ ⟨addX f3 r.1 z,inv3.addX hzo,hf3,?_⟩
       unfold addX
       rw [if_neg hb,←layF_set h4 hn]
       simp
      ·rw [any_sym (inv3.sym g _) hzs] at hb
       have hb:z∈f3 r.1:=by simpa using hb
       refine T_nil (Nx.next (t_fit (frN2 rs e d r x) ⟨rfl,rfl,rfl,rfl,rfl,rfl,trivial⟩ (T_nil ?_)))
       refine i4 _ ⟨addX f3 r.1 z,inv3.addX hzo,hf3,?_⟩
       unfold addX
       rw [if_pos hb]
     ·rintro σ' ⟨f3,inv3,hf3,rfl⟩
      rw [List.length_map,List.drop_length] at hf3
      have ok:=layF_ok (f':=f3) ok
      have hsc:scan emp r.1 f2 (x :: r.2.drop (k+1))=if emp x then scan emp r.1 f3 (r.2.drop (k+1)) else f3:=by
       conv=>lhs;unfold scan
       rw [hf3];rfl
      refine Nx.next (T_cons (T_if (t_isCmp (t_loc rfl <| t_loc rfl <| D_nin (DictR.S (hoe _ (fr_some ok (her f3)))) KeyR.str <| truth_bool ⟨fun hb=>?_,fun hb=>?_⟩))))
      ·rw [isSome_sym _ hE hxs] at hb
       have hb:emp x=false:=by rw [←hemp];simpa using hb
       rw [hb,if_neg (by simp)] at hsc
       refine T_cons (T_break (Nx.brk (Nx.brk ?_)))
       refine Nx.next (t_fit (frN0 rs e d) ⟨rfl,rfl,rfl,trivial⟩ (T_nil (i2 _ ⟨f3,inv3,?_,rfl⟩)))
       rw [hf1,hf2,hsc]
      ·rw [isSome_sym _ hE hxs] at hb
       have hb:emp x=true:=by rw [←hemp];simpa using hb
       rw [hb,if_pos rfl] at hsc
       refine T_nil (Nx.next (t_fit (frN1 rs e d r) ⟨rfl,rfl,rfl,rfl,rfl,trivial⟩ (T_nil (i3 _ ⟨f3,inv3,?_,rfl⟩))))
       rw [hf2,hsc]
    ·rintro σ' ⟨f2,inv2,hf2,rfl⟩
     rw [List.length_map,List.drop_length] at hf2
     refine Nx.next (t_fit (frN0 rs e d) ⟨rfl,rfl,rfl,trivial⟩ (T_nil (i2 _ ⟨f2,inv2,?_,rfl⟩)))
     rw [hf1,hf2];rfl
   ·rintro σ' ⟨f1,inv1,hf1,rfl⟩
    rw [List.length_map,List.drop_length] at hf1
    refine Nx.next (T_nil (i1 _ ⟨?_,?_⟩))
    ·rw [hsucc,hf1];exact inv1
    ·rw [hsucc,hf1];rfl
  ·rintro σ' ⟨inv,rfl⟩
   subst hσd
   have hl4:(rngL 0 1 4).length=4:=by simp [rngL]
   rw [hl4] at inv ⊢
   generalize hf4:frAt emp rs 4=f at inv h
   have s0:σ a0=none:=by rwa [upd_ne _ _ (Ne.symm hd0)] at n0
   have s1:σ a1=none:=by rwa [upd_ne _ _ (Ne.symm h4.h01),upd_ne _ _ (Ne.symm hd1)] at n1
   have s2:σ a2=none:=by rwa [upd_ne _ _ (Ne.symm h4.h12),upd_ne _ _ (Ne.symm h4.h02),upd_ne _ _ (Ne.symm hd2)] at n2
   have s3:σ a3=none:=by rwa [upd_ne _ _ (Ne.symm h4.h23),upd_ne _ _ (Ne.symm h4.h13),upd_ne _ _ (Ne.symm h4.h03),upd_ne _ _ (Ne.symm hd3)] at n3
   have ok:=layF_ok (f':=f) ok
   refine Nx.next ?_
   have e3':layF (upd σ d (some (.dictS (frKV a0 a1 a2 a3)))) a0 a1 a2 a3 f a3=some (.list ((((f 259).map fun n=>PyData.str (symS n))).map SV.d)):=by rw [←symL_d];exact layF_get h4 (n:=259) ⟨by decide,by decide⟩
   refine t_freezeS (kvs':=[(symS 256,.ref a0),(symS 257,.ref a1),(symS 258,.ref a2),(symS 259,.d (bodyD (f 259)))]) ok e3' (hdr f) (.cons ⟨rfl,.inl rfl⟩ (.cons ⟨rfl,.inl rfl⟩ (.cons ⟨rfl,.inl rfl⟩ (.cons ⟨rfl,.inr ⟨rfl,rfl⟩⟩ .nil)))) fun ok=>?_
   rw [←upd_id (hdr f)] at ok ⊢
   unfold layF at ok ⊢
   rw [frz_step (by rw [upd_ne _ _ (Ne.symm h4.h23),upd_ne _ _ (Ne.symm h4.h13),upd_ne _ _ (Ne.symm h4.h03),upd_ne _ _ (Ne.symm hd3)];exact s3) (Ne.symm hd3)] at ok ⊢
   refine t_freezeS (a:=a2) (ds:=(f 258).map fun n=>PyData.str (symS n)) (kvs':=[(symS 256,.ref a0),(symS 257,.ref a1),(symS 258,.d (bodyD (f 258))),(symS 259,.d (bodyD (f 259)))]) ok (by rw [←symL_d,upd_ne _ _ (Ne.symm hd2),upd_self]) (upd_self ..) (.cons ⟨rfl,.inl rfl⟩ (.cons ⟨rfl,.inl rfl⟩ (.cons ⟨rfl,.inr ⟨rfl,rfl⟩⟩ (.cons ⟨rfl,.inl rfl⟩ .nil)))) fun ok=>?_
   rw [frz_step (by rw [upd_ne _ _ (Ne.symm h4.h12),upd_ne _ _ (Ne.symm h4.h02),upd_ne _ _ (Ne.symm hd2)];exact s2) (Ne.symm hd2)] at ok ⊢
   refine t_freezeS (a:=a1) (ds:=(f 257).map fun n=>PyData.str (symS n)) (kvs':=[(symS 256,.ref a0),(symS 257,.d (bodyD (f 257))),(symS 258,.d (bodyD (f 258))),(symS 259,.d (bodyD (f 259)))]) ok (by rw [←symL_d,upd_ne _ _ (Ne.symm hd1),upd_self]) (upd_self ..) (.cons ⟨rfl,.inl rfl⟩ (.cons ⟨rfl,.inr ⟨rfl,rfl⟩⟩ (.cons ⟨rfl,.inl rfl⟩ (.cons ⟨rfl,.inl rfl⟩ .nil)))) fun ok=>?_
   rw [frz_step (by rw [upd_ne _ _ (Ne.symm h4.h01),upd_ne _ _ (Ne.symm hd1)];exact s1) (Ne.symm hd1)] at ok ⊢
   refine t_freezeS (a:=a0) (ds:=(f 256).map fun n=>PyData.str (symS n)) (kvs':=[(symS 256,.d (bodyD (f 256))),(symS 257,.d (bodyD (f 257))),(symS 258,.d (bodyD (f 258))),(symS 259,.d (bodyD (f 259)))]) ok (by rw [←symL_d,upd_ne _ _ (Ne.symm hd0),upd_self]) (upd_self ..) (.cons ⟨rfl,.inr ⟨rfl,rfl⟩⟩ (.cons ⟨rfl,.inl rfl⟩ (.cons ⟨rfl,.inl rfl⟩ (.cons ⟨rfl,.inl rfl⟩ .nil)))) fun ok=>?_
   rw [frz_step (by rw [upd_ne _ _ (Ne.symm hd0)];exact s0) (Ne.symm hd0),upd_upd] at ok ⊢
   exact T_cons (T_ret (t_loc rfl ⟨_,_,rfl,ok,h d hdσ⟩))
 ·rfl
 ·simp at hy;rcases hy with rfl | rfl <;> exact .inl rfl
 ·decide
 ·decide
 ·decide
end
end Mine
end
section
set_option maxHeartbeats 400000
namespace Mine
noncomputable def maxL (xs:List Int):Int:=xs.foldl max 0
theorem maxL_ge:∀ (xs:List Int) (m:Int),m≤xs.foldl max m∧∀ a∈xs,a≤xs.foldl max m:=fun l=>by
 induction l with
 | nil=>exact fun m=>⟨Int.le_refl _,nofun⟩
 | cons x r ih =>
  intro m
  obtain ⟨h1,h2⟩:=ih (max m x)
  refine ⟨Int.le_trans (Int.le_max_left _ _) h1,fun a ha=>?_⟩
  rcases List.mem_cons.mp ha with rfl | ha
  ·exact Int.le_trans (Int.le_max_right _ _) h1
  ·exact h2 a ha
theorem maxL_mem:∀ (xs:List Int) (m:Int),xs.foldl max m=m∨xs.foldl max m∈xs:=fun l=>by
 induction l with
 | nil=>exact fun _=>.inl rfl
 | cons x r ih =>
  intro m
  rcases ih (max m x) with h | h
  ·rw [List.foldl_cons,h]
   rcases Int.le_total m x with q | q
   ·rw [Int.max_eq_right q];exact .inr (.head _)
   ·rw [Int.max_eq_left q];exact .inl rfl
  ·exact .inr (.tail _ h)
theorem maxL_uniq {xs:List Int} {M:Int} (h:M∈0 :: xs) (hu:∀ a∈0 :: xs,a≤M):M=maxL xs:=by
 have h1:=maxL_ge xs 0
 refine Int.le_antisymm ?_ ?_
 ·rcases List.mem_cons.mp h with rfl | h
  ·exact h1.1
  ·exact h1.2 M h
 ·rcases maxL_mem xs 0 with q | q
  ·show xs.foldl max 0≤M;rw [q];exact hu 0 (.head _)
  ·exact hu _ (.tail _ q)
noncomputable def chainN:Nat→FMap→Int→Int
 | 0,_,_=>0
 | k+1,f,s=>maxL ((frGet f s).map fun x=>1+chainN k f x)
noncomputable def Deep (f:FMap):Nat→Int→Prop
 | 0,_=>False
 | k+1,s=>∀ x∈frGet f s,Deep f k x
noncomputable def frKVd (f:FMap):List (Str×SV):=symKV (fun ys=>.d (bodyD ys)) ([256,257,258,259].map fun k=>(k,f k))
instance nmDec (s:Int):Decidable (IsNm s):=inferInstanceAs (Decidable (256≤s∧s < 260))
theorem aget_fr {f:FMap} {s:Int}:aget ([256,257,258,259].map fun k=>((k:Int),f k)) s=if IsNm s then some (f s) else none:=by
 unfold aget
 by_cases h:IsNm s
 ·rcases nm_cases h with rfl | rfl | rfl | rfl <;> rfl
 ·rw [if_neg h,List.find?_eq_none.mpr];rfl
  intro p hp
  simp at hp
  rcases hp with rfl | rfl | rfl | rfl <;> simp <;> rintro rfl <;> exact h ⟨by decide,by decide⟩
theorem frKVd_keys {f:FMap}:KeysS ([256,257,258,259].map fun k=>((k:Int),f k)):=keys4 _ _ _ _
theorem frKVd_get {f:FMap} {s:Int} (h:IsSym s):sget (frKVd f) (symS s)=if IsNm s then some (.d (bodyD (f s))) else none:=by
 unfold frKVd
 rw [sget_sym _ frKVd_keys h,aget_fr]
 split <;> rfl
theorem frKVd_getD {f:FMap} {s:Int} (h:IsSym s):(sget (frKVd f) (symS s)).getD (.d (.list []))=.d (bodyD (frGet f s)):=by
 rw [frKVd_get h]
 unfold frGet
 rcases h with h | h
 ·rw [if_pos h,if_neg (by have:=h.1;exact om25 this)];rfl
 ·have hn:¬IsNm s:=fun q=>by have:=h.2;have:=q.1;exact om38 ‹_› this
  rw [if_neg hn,if_pos (by have:=h.2;exact om39 this)];rfl
noncomputable def csCh (L:Addr):List (Str×Addr):=[(Str.ofString "fronts",L+1)]
section
variable {G:GC}
theorem W_chain {ops:List Int} {rs:List Rule} (g:Gram ops rs) {f:FMap} (inv:FrInv ops f) {d:Addr} {n:Nat}:∀ (k:Nat) {A:Around} {σ:Sig} {Q:SV→Sig→Prop} {s:Int},Rm (n+k) A→σ d=some (.dictS (frKVd f))→Deep f k s→IsSym s →
  Q (.d (.int (chainN k f s))) σ→CallT G.c A (.ref 201) [.ref d,.d (.str (symS s))] σ Q
 | 0,_,_,_,_,_,_,h,_,_=>h.elim
 | k+1,A,σ,Q,s,R,hd,hdeep,hs,hq=>by
  refine C_fnC (f:=201) [(Str.ofString "fronts",.ref d),(Str.ofString "symbol",.d (.str (symS s)))] csCh rfl ?_ R (fun F vs p=>?_) (fun L ok=>?_) (fun L=>?_) (fun L y hy=>?_) ?_ ?_ [Str.ofString "fronts",Str.ofString "symbol"] rfl ?_ rfl rfl rfl
  ·rfl
  ·exact pr2 (fun v a w b=>⟨_,fun S=>rfl,.cons ⟨rfl,a⟩ (.cons ⟨rfl,b⟩ .nil)⟩) p
  ·have hgl:∀ x∈frGet f s,IsSym x:=fun x hx=>(inv.get s x hx).imp id (g.op x)
   have hdr:∀ m',fr σ L (csCh L) m' d=some (.dictS (frKVd f)):=fun m'=>fr_some ok hd
   refine T_cons (T_ret (t_callB rfl (by rfl) (by decide) (kept_builtin _) (t_a1 (T_bin (T_listF (T_spl_ints (ss:=[0]) rfl ⟨[.int 0],rfl,by simp,?_⟩))))))
   refine t_compM (ys:=frGet f s) (fun x:Int=>SV.d (.str (symS x))) (fun x=>some (.int (1+chainN k f x))) (fun a ha b hb e=>by rw [symS_inj (hgl a ha) (hgl b hb) (by simpa using e)]) ?_
   refine t_meth m_get (t_cell rfl ok ⟨oft_dict (DictR.S (.inl (hdr _))),t_a2 (t_loc rfl (T_listF (T_spl_nil ⟨[],rfl,by simp,D_get2 (DictR.S (.inl (hdr _))) KeyR.str ?_⟩)))⟩)
   rw [frKVd_getD hs]
   refine ⟨it_syms (R.deeper _) ⟨_,_,rfl⟩,?_,fun C hC x hx m'=>t_asN ⟨nofun,fun _=>?_⟩,?_⟩
   ·unfold frGet
    split
    ·simp
    ·have:=inv.len g.ops3 s;exact om124 this
   ·exact T_bin (T_int (t_callG (v:=.ref 201) rfl rfl (t_a2 (t_ca (in_fr hC (cell_in (x:=Str.ofString "fronts") ok rfl)) (t_loc rfl (W_chain g inv k (R.deeper _) (in_fr hC (hdr _)) (hdeep x hx) (hgl x hx) (O_add ⟨rfl,_,rfl⟩)))))))
   ·have hl:(frGet f s).length≤7:=by
     unfold frGet
     split
     ·simp
     ·exact inv.len g.ops3 s
    refine O_concatF (ds:=[.int 0]) .d .d (by simp;exact om122 hl) ?_
    have e:[PyData.int 0]++(frGet f s).filterMap (fun x=>some (PyData.int (1+chainN k f x)))=(0 :: (frGet f s).map fun x=>1+chainN k f x).map PyData.int:=by
     rw [show (fun x=>some (PyData.int (1+chainN k f x)))=some ∘ (fun x=>PyData.int (1+chainN k f x)) from rfl,List.filterMap_eq_map,List.map_cons,List.map_map];rfl
    rw [e]
    refine O_max (R.deeper _) asl_ints (by simp) fun M h1 h2=>⟨σ,_,rfl,ok,?_⟩
    rw [maxL_uniq h1 h2]
    exact hq
  ·rfl
  ·simp at hy;rcases hy with rfl | rfl
   ·exact .inr ⟨rfl,rfl⟩
   ·exact .inl rfl
  ·decide
  ·decide
  ·decide
end
end Mine
end
section
set_option maxHeartbeats 400000
namespace Mine
noncomputable def insI:Int→List Int→List Int
 | x,[]=>[x]
 | x,y :: r=>if x≤y then x :: y :: r else y :: insI x r
noncomputable def sortI (xs:List Int):List Int:=xs.foldr insI []
theorem insI_perm (x:Int):∀ l,(insI x l).Perm (x :: l)
 | []=>.refl _
 | y :: r=>by
  unfold insI;split
  ·exact .refl _
  ·exact ((insI_perm x r).cons y).trans (.swap _ _ _)
theorem insI_sorted (x:Int):∀ l,l.Pairwise (·≤·)→(insI x l).Pairwise (·≤·)
 | [],_=>by simp [insI]
 | y :: r,h=>by
  unfold insI
  rw [List.pairwise_cons] at h
  split
  ·rename_i q
   refine List.pairwise_cons.mpr ⟨fun a ha=>?_,List.pairwise_cons.mpr h⟩
   rcases List.mem_cons.mp ha with rfl | ha
   ·exact q
   ·exact Int.le_trans q (h.1 a ha)
  ·rename_i q
   refine List.pairwise_cons.mpr ⟨fun a ha=>?_,insI_sorted x r h.2⟩
   rcases List.mem_cons.mp ((insI_perm x r).mem_iff.mp ha) with rfl | ha
   ·exact om48 q
   ·exact h.1 a ha
theorem sortI_perm (xs:List Int):(sortI xs).Perm xs:=by
 induction xs with
 | nil=>exact .refl _
 | cons x r ih=>exact (insI_perm x _).trans (ih.cons x)
theorem sortI_sorted (xs:List Int):(sortI xs).Pairwise (·≤·):=by
 induction xs with
 | nil=>exact .nil
 | cons x r ih=>exact insI_sorted x _ ih
theorem sorted_uniq:∀ {a b:List Int},a.Perm b→a.Pairwise (·≤·)→b.Pairwise (·≤·)→a=b
 | [],b,h,_,_=>by rw [h.nil_eq]
 | x :: r,[],h,_,_=>by have:=h.length_eq;simp at this
 | x :: r,y :: t,h,ha,hb=>by
  rw [List.pairwise_cons] at ha hb
  have e:x=y:=by
   have h1:x∈y :: t:=h.mem_iff.mp (.head _)
   have h2:y∈x :: r:=h.mem_iff.mpr (.head _)
   have p:x≤y:=by
    rcases List.mem_cons.mp h2 with rfl | h2
    ·exact Int.le_refl _
    ·exact ha.1 y h2
   have q:y≤x:=by
    rcases List.mem_cons.mp h1 with rfl | h1
    ·exact Int.le_refl _
    ·exact hb.1 x h1
   exact Int.le_antisymm p q
  subst e
  rw [sorted_uniq h.cons_inv ha.2 hb.2]
theorem sortI_uniq {xs ns:List Int} (h:ns.Perm xs) (hs:ns.Pairwise (·≤·)):ns=sortI xs:=sorted_uniq (h.trans (sortI_perm xs).symm) hs (sortI_sorted xs)
noncomputable abbrev four:List Int:=[256,257,258,259]
noncomputable def ringsOf (f:FMap):List Int:=four.filter fun n=>decide (n∈f n)
noncomputable def startsOf (f:FMap) (n:Int):List Int:=(f n).filter fun x=>decide (x < 256)
noncomputable abbrev DV:=Int×List Int
noncomputable def goodB (f:FMap) (n:Int):Bool:=(n :: f n).all fun x=>decide (x∉ringsOf f)
noncomputable def dueStarts (f:FMap) (n:Int) (D:List (Int×DV)):List (Int×DV):=(startsOf f n).foldl (fun D x=>aset D x ((0:Int),[x])) D
noncomputable def dueStep (K:Nat) (f:FMap) (D:List (Int×DV)) (n:Int):List (Int×DV):=dueStarts f n (if goodB f n then aset D n (chainN K f n,sortI (startsOf f n)) else D)
noncomputable def dueOf (K:Nat) (f:FMap):List (Int×DV):=four.foldl (dueStep K f) []
noncomputable abbrev dvS (v:DV):SV:=.d (.tuple [.int v.1,.list (v.2.map PyData.int)])
noncomputable def dueKV (D:List (Int×DV)):List (Int×SV):=D.map fun p=>(p.1,dvS p.2)
theorem sset_due {D:List (Int×DV)} {k:Int} {v:DV}:sset (dueKV D) k (dvS v)=dueKV (aset D k v):=by
 unfold sset aset dueKV
 have e1:(D.map fun p=>(p.1,dvS p.2)).any (fun p=>decide (p.1=k))=D.any fun p=>decide (p.1=k):=by
  induction D with
  | nil=>rfl
  | cons p r ih=>rw [List.map_cons,List.any_cons,List.any_cons,ih]
 rw [e1]
 split
 ·rw [List.map_map,List.map_map]
  refine List.map_congr_left fun p hp=>?_
  simp only [Function.comp]
  split <;> rfl
 ·simp
theorem abcd_eq:((Str.ofString "ABCD").cps.toList.map fun k=>SV.d (.str ⟨#[k]⟩))=four.map fun n=>SV.d (.str (symS n)):=rfl
theorem in_abcd {n:Int} (h:IsSym n):(Builtin.Str.occurrences (Str.ofString "ABCD") (symS n) 0 (Str.ofString "ABCD").length 1).isEmpty=decide (n < 256):=by
 rcases h with h | h
 ·rw [show Builtin.Str.occurrences (Str.ofString "ABCD") (symS n) 0 (Str.ofString "ABCD").length 1=[(n - 256).toNat] from nm_occ h,decide_eq_false (by have:=h.1;exact om25 this)];rfl
 ·rw [show Builtin.Str.occurrences (Str.ofString "ABCD") (symS n) 0 (Str.ofString "ABCD").length 1=[] from (op_all h).1,decide_eq_true (by have:=h.2;exact om39 this)];rfl
noncomputable def NxP (P:Sig→Prop):SFlow→Sig→Prop
 | .next,σ=>P σ
 | _,_=>False
theorem T_consP {c:Cfg} {A:Around} {env:Env} {σ:Sig} {st:Stmt} {rest:List Stmt} {Q:SFlow→Sig→Prop} (P:Sig→Prop) (h1:TF c A (exec st env) σ (NxP P)) (h2:∀ σ1,P σ1→TF c A (execs rest env) σ1 Q):TF c A (execs (st :: rest) env) σ Q :=
 T_cons (h1.mono fun fl σ1 q=>by cases fl with | next=>exact h2 σ1 q | _=>exact q.elim)
theorem opP {c:Cfg} {A:Around} {t:Sem Flow} {σ:Sig} {P:Sig→Prop} (h:∀ P',(∀ σ1,P σ1→P' σ1)→TF c A t σ (NxP P')):TF c A t σ (NxP P):=h P fun _ q=>q
theorem NxP.next {P:Sig→Prop} {σ:Sig} (h:P σ):NxP P .next σ:=h
noncomputable def frD0 (d dd:Addr) (f:FMap):List (Str×SV):=[(Str.ofString "fronts",.ref d),(Str.ofString "rings",.d (bodyD (ringsOf f))),(Str.ofString "due",.ref dd)]
noncomputable def frD1 (d dd:Addr) (f:FMap) (k:Int):List (Str×SV):=[(Str.ofString "fronts",.ref d),(Str.ofString "rings",.d (bodyD (ringsOf f))),(Str.ofString "due",.ref dd),(Str.ofString "name",.d (.str (symS k))),(Str.ofString "starts",.d (bodyD (startsOf f k)))]
noncomputable def csDue (L:Addr):List (Str×Addr):=[(Str.ofString "rings",L+2),(Str.ofString "fronts",L+1)]
inductive DuJ (σ:Sig) (dd L:Addr) (l:List (Str×SV)) (D0:List (Int×DV)) (z:Nat) (σ':Sig):Prop
 | mk (D:List (Int×DV)) (h:D=D0) (hz:D.length≤z) (e:σ'=fr (upd σ dd (some (.dictI (dueKV D)))) L (csDue L) (mkm l)):DuJ σ dd L l D0 z σ'
section
variable {G:GC} {A:Around} {σ:Sig} {n:Nat} {Q:SV→Sig→Prop}
theorem W_due {ops:List Int} {rs:List Rule} {d:Addr} {f:FMap} {K:Nat} (R:Rm (n+K+4) A) (g:Gram ops rs) (inv:FrInv ops f) (hd:σ d=some (.dictS (frKVd f)))
  (hK:∀ k,IsNm k→goodB f k=true→Deep f K k)
  (h:∀ a dd,σ a=none→σ dd=none→a≠dd→Q (.ref a) (upd (upd σ dd (some (.dictI (dueKV (dueOf K f))))) a (some (.tup [.d (bodyD (ringsOf f)),.ref dd])))):CallT G.c A (.ref 206) [.ref d] σ Q:=by
 refine C_fnC (f:=206) [(Str.ofString "fronts",.ref d)] csDue rfl ?_ R (fun F vs p=>?_) (fun L ok=>?_) (fun L=>?_) (fun L y hy=>?_) ?_ ?_ [Str.ofString "fronts"] rfl ?_ rfl rfl rfl
 ·rfl
 ·exact pr1 (fun v a=>⟨_,fun S=>rfl,.cons ⟨rfl,a⟩ .nil⟩) p
 ·have hnmS:∀ k∈four,IsNm k:=by decide
  have hfs:∀ k,∀ x∈f k,IsSym x:=fun k=>inv.sym g k
  have hget:∀ k∈four,sget (frKVd f) (symS k)=some (.d (bodyD (f k))):=fun k hk=>by rw [frKVd_get (.inl (hnmS k hk)),if_pos (hnmS k hk)]
  refine T_cons (t_as (t_compM (ys:=four) (fun k:Int=>SV.d (.str (symS k))) (fun k=>if decide (k∈f k) then some (.str (symS k)) else none) (fun a ha b hb e=>by rw [symS_inj (.inl (hnmS a ha)) (.inl (hnmS b hb)) (by simpa using e)]) (T_str ⟨?_,by decide,fun C hC k hk m'=>t_asN ?_,t_stC ok ?_⟩)))
  ·rw [←abcd_eq];exact it_str (R.deeper _) (by decide +kernel) ⟨_,_,rfl⟩
  ·have hdC:∀ m',fr (fr σ L (csDue L) (mkm [(Str.ofString "fronts",.ref d)])) C [] m' d=some (.dictS (frKVd f)):=fun m'=>in_fr hC (fr_some ok hd)
   refine t_isCmp (t_loc rfl <| t_sub slot_dict_getitem.lookup (t_ca (in_fr hC (cell_in (x:=Str.ofString "fronts") ok rfl)) <| t_loc rfl ⟨typeD (DictR.S (.inl (hdC _))),G_dict (DictR.S (.inl (hdC _))) KeyR.str (hget k hk) <| O_inS (ns:=(f k).map symS) (by rw [show bodyD (f k)=.list (((f k).map symS).map PyData.str) by simp [bodyD]];exact asl_strs) <| truth_bool ⟨fun hb=>⟨nofun,fun _=>?_⟩,fun hb=>⟨fun _=>?_,nofun⟩⟩⟩))
   ·rw [any_sym (hfs k) (.inl (hnmS k hk))] at hb
    exact t_loc rfl ⟨by rw [if_pos hb];rfl,_,rfl⟩
   ·rw [any_sym (hfs k) (.inl (hnmS k hk))] at hb
    exact ⟨by rw [if_neg (by rw [hb];simp)];rfl,_,rfl⟩
  ·have er:four.filterMap (fun k=>if decide (k∈f k) then some (PyData.str (symS k)) else none)=(ringsOf f).map fun n=>.str (symS n):=by
    unfold ringsOf
    generalize four=q
    induction q with
    | nil=>rfl
    | cons k q ih =>
     rw [List.filterMap_cons,List.filter_cons]
     by_cases h:k∈f k
     ·simp only [h,decide_true,if_true,List.map_cons,ih]
     ·simp only [h,decide_false,Bool.false_eq_true,if_false,ih]
   rw [er]
   refine T_cons (t_as (t_dict0I ok fun dd N=>t_st ?_))
   have hddσ:=N.free
   have hdd:=lay_new N.whole hd
   replace ok:=N.ok
   clear N
   refine t_fit (frD0 d dd f) ⟨rfl,rfl,rfl,trivial⟩ ?_
   refine T_cons (t_for (T_str ⟨four.map fun n=>SV.d (.str (symS n)),fun i=>DuJ σ dd L (frD0 d dd f) ((four.take i).foldl (dueStep K f) []) (8 * i),by rw [←abcd_eq];exact it_str (R.deeper _) (by decide +kernel) ⟨_,_,rfl⟩,⟨[],rfl,by simp,rfl⟩,?_,?_⟩))
   ·rintro i y σ' hy ⟨D,hD,hDl,rfl⟩
    rw [List.getElem?_map] at hy
    obtain ⟨k,hk,rfl⟩:=Option.map_eq_some_iff.mp hy
    have hkm:=List.mem_of_getElem? hk
    have hkn:=hnmS k hkm
    have hi:i < 4:=(List.getElem?_eq_some_iff.mp hk).1
    have hfl:=inv.len g.ops3 k
    have ok:FrOk (upd σ dd (some (.dictI (dueKV D)))) L (csDue L):=ok.re
    have hdD:∀ D,upd σ dd (some (.dictI (dueKV D))) d=some (.dictS (frKVd f)):=fun D=>by rw [upd_ne _ _ hdd,hd]
    refine t_asN (opF fun P1 i1=>T_cons (t_asCompM (L:=L) (cs:=csDue L) (ys:=f k) (fun x:Int=>SV.d (.str (symS x))) (fun x=>if decide (x < 256) then some (.str (symS x)) else none) (fun a ha b hb e=>by rw [symS_inj (hfs k a ha) (hfs k b hb) (by simpa using e)]) ?_))
    refine t_sub slot_dict_getitem.lookup (t_cell rfl ok <| t_loc rfl ⟨typeD (DictR.S (.inl (fr_some ok (hdD D)))),G_dict (DictR.S (.inl (fr_some ok (hdD D)))) KeyR.str (hget k hkm) ⟨_,_,rfl,it_syms (R.deeper _) ⟨_,_,rfl⟩,om124 hfl,fun C hC x hx m'=>t_asN ?_,?_⟩⟩)
    ·refine t_isCmp (t_loc rfl <| T_str <| O_ninT <| truth_bool ?_)
     rw [in_abcd (hfs k x hx)]
     refine ⟨fun hb=>⟨nofun,fun _=>t_loc rfl ⟨by rw [hb];rfl,_,rfl⟩⟩,fun hb=>⟨fun _=>⟨by rw [hb];rfl,_,rfl⟩,nofun⟩⟩
    ·refine Nx.next ?_
     have es:(f k).filterMap (fun x=>if decide (x < 256) then some (PyData.str (symS x)) else none)=(startsOf f k).map fun n=>.str (symS n):=by
      unfold startsOf
      generalize f k=q
      induction q with
      | nil=>rfl
      | cons x q ih =>
       rw [List.filterMap_cons,List.filter_cons]
       by_cases h:x < 256
       ·simp only [h,decide_true,if_true,List.map_cons,ih]
       ·simp only [h,decide_false,Bool.false_eq_true,if_false,ih]
     rw [es]
     have hsl:(startsOf f k).length≤7:=Nat.le_trans (List.length_filter_le _ _) hfl
     have hsS:∀ x∈startsOf f k,IsSym x:=fun x hx=>hfs k x (List.mem_filter.mp hx).1
     refine t_fit (frD1 d dd f k) ⟨rfl,rfl,rfl,rfl,rfl,trivial⟩ ?_
     have hkS:∀ x∈k :: f k,IsSym x:=fun x hx=>by
      rcases List.mem_cons.mp hx with rfl | hx
      ·exact .inl hkn
      ·exact hfs k x hx
     have hrS:∀ x∈ringsOf f,IsSym x:=fun x hx=>.inl (hnmS x (List.mem_filter.mp hx).1)
     refine T_consP (fun σ1=>σ1=fr (upd σ dd (some (.dictI (dueKV (if goodB f k then aset D k (chainN K f k,sortI (startsOf f k)) else D))))) L (csDue L) (mkm (frD1 d dd f k))) (opP fun P2 i2=>T_if (t_isCmp (t_compM (ys:=k :: f k) (fun x:Int=>SV.d (.str (symS x))) (fun x=>if decide (x∈ringsOf f) then some (.str (symS x)) else none) (fun a ha b hb e=>by rw [symS_inj (hkS a ha) (hkS b hb) (by simpa using e)]) ?_))) ?_
     ·refine T_bin (T_listF (T_spl_cons (t_loc rfl (T_spl_nil ⟨[.str (symS k)],rfl,by simp,?_⟩)) rfl))
      refine t_sub slot_dict_getitem.lookup (t_cell rfl ok <| t_loc rfl ⟨typeD (DictR.S (.inl (fr_some ok (hdD D)))),G_dict (DictR.S (.inl (fr_some ok (hdD D)))) KeyR.str (hget k hkm) ?_⟩)
      refine O_concatF (ds:=[.str (symS k)]) (es:=(f k).map fun n=>.str (symS n)) .d .d (by simp;exact om122 hfl) ?_
      rw [show [PyData.str (symS k)]++(f k).map (fun n=>PyData.str (symS n))=(k :: f k).map (fun n=>PyData.str (symS n)) from rfl]
      refine ⟨it_syms (R.deeper _) ⟨_,_,rfl⟩,by simp;exact om125 hfl,fun C hC x hx m'=>t_asN ?_,?_⟩
      ·refine t_isCmp (t_loc rfl <| t_ca (in_fr hC (cell_in (x:=Str.ofString "rings") ok rfl)) <| O_inS (ns:=(ringsOf f).map symS) (by rw [show bodyD (ringsOf f)=.list (((ringsOf f).map symS).map PyData.str) by simp [bodyD]];exact asl_strs) <| truth_bool ?_)
       rw [any_sym hrS (hkS x hx)]
       exact ⟨fun hb=>⟨nofun,fun _=>t_loc rfl ⟨by rw [hb];rfl,_,rfl⟩⟩,fun hb=>⟨fun _=>⟨by rw [hb];rfl,_,rfl⟩,nofun⟩⟩
      ·refine T_listF (T_spl_nil ⟨[],rfl,by simp,O_eqNil (R.deeper _) (fun y hy=>?_) (truth_bool ?_)⟩)
       ·obtain ⟨x,hx,e⟩:=List.mem_filterMap.mp hy
        split at e
        ·cases e;exact flat0_sym (hkS x hx)
        ·cases e
       ·have eg:((k :: f k).filterMap fun x=>if decide (x∈ringsOf f) then some (PyData.str (symS x)) else none).isEmpty=goodB f k:=by
         unfold goodB
         generalize k :: f k=q
         induction q with
         | nil=>rfl
         | cons x q ih =>
          rw [List.filterMap_cons,List.all_cons]
          by_cases h:x∈ringsOf f
          ·simp [h]
          ·simp only [h,decide_false,Bool.false_eq_true,if_false,ih,not_false_eq_true,decide_true,Bool.true_and]
        rw [eg]
        refine ⟨fun hb=>?_,fun hb=>T_nil (NxP.next (i2 _ ?_))⟩
        ·refine T_cons (T_assignSub (T_tupF (T_spl_cons (t_callG (v:=.ref 201) rfl rfl (t_a2 (t_cell rfl ok (t_loc rfl (W_chain g inv (n:=n+3) K ((R.deeper _).less (om146)) (fr_some ok (hdD D)) (hK k hkn hb) (.inl hkn) ?_))))) rfl)) rfl)
         refine T_spl_cons (t_callB rfl (by rfl) (by decide) (kept_builtin _) (t_a1 (t_compM (ys:=startsOf f k) (fun x:Int=>SV.d (.str (symS x))) (fun x=>some (.int x)) (fun a ha b hb e=>by rw [symS_inj (hsS a ha) (hsS b hb) (by simpa using e)]) (t_loc rfl ⟨it_syms (R.deeper _) ⟨_,_,rfl⟩,om124 hsl,fun C hC x hx m'=>t_asN ⟨nofun,fun _=>?_⟩,?_⟩)))) rfl
         ·exact t_callG (v:=.ref 184) rfl rfl (t_a1 (t_loc rfl (W_number (n:=n+K+1) (R.deeper _) (hsS x hx) ⟨rfl,_,rfl⟩)))
         ·have e:(startsOf f k).filterMap (fun x=>some (PyData.int x))=(startsOf f k).map PyData.int:=by
           rw [show (fun x=>some (PyData.int x))=some ∘ PyData.int from rfl,List.filterMap_eq_map]
          rw [e]
          refine O_sorted asl_ints (om123 hsl) fun ns' h1 h2=>T_spl_nil ⟨[_,_],rfl,by simp,?_⟩
          rw [sortI_uniq h1 h2]
          refine t_loc rfl (t_callG (v:=.ref 184) rfl rfl (t_a1 (t_loc rfl (W_number (n:=n+K+1) (R.deeper _) (.inl hkn) ?_))))
          refine s_dictI ok (upd_self ..) (by simp [dueKV];exact om190 hDl hi) fun ok'=>Nx.next (T_nil (NxP.next (i2 _ ?_)))
          rw [upd_upd,hb,if_pos rfl,←sset_due]
        ·rw [hb,if_neg (by simp)]
     ·rintro σ1 rfl
      have hD1l:(if goodB f k then aset D k (chainN K f k,sortI (startsOf f k)) else D).length≤8 * i+1:=by
       split
       ·have:=aset_len D k (chainN K f k,sortI (startsOf f k));exact om274 hDl this
       ·exact om189 hDl
      have hD1:dueStep K f D k=dueStarts f k (if goodB f k then aset D k (chainN K f k,sortI (startsOf f k)) else D):=rfl
      generalize (if goodB f k then aset D k (chainN K f k,sortI (startsOf f k)) else D)=D1 at hD1l hD1
      refine T_cons (t_for (t_loc rfl ⟨_,fun l=>DuJ σ dd L (frD1 d dd f k) (((startsOf f k).take l).foldl (fun D x=>aset D x ((0:Int),[x])) D1) (8 * i+1+l),it_syms (R.deeper _) ⟨_,_,rfl⟩,⟨D1,rfl,by omega,rfl⟩,?_,?_⟩))
      ·rintro l y σ' hy ⟨D2,hD2,hD2l,rfl⟩
       rw [List.getElem?_map] at hy
       obtain ⟨x,hx,rfl⟩:=Option.map_eq_some_iff.mp hy
       have hxS:=hsS x (List.mem_of_getElem? hx)
       have hl:l < (startsOf f k).length:=(List.getElem?_eq_some_iff.mp hx).1
       have ok:FrOk (upd σ dd (some (.dictI (dueKV D2)))) L (csDue L):=ok.re
       refine t_asN (opF fun P3 i3=>T_cons (T_assignSub (T_tupF (T_spl_cons (T_int (T_spl_cons (T_listF (T_spl_cons (t_callG (v:=.ref 184) rfl rfl (t_a1 (t_loc rfl (W_number (n:=n+K+1) (R.deeper _) hxS ?_)))) rfl)) rfl)) rfl)) rfl))
       refine T_spl_nil ⟨[.int x],rfl,by simp,T_spl_nil ⟨[.int 0,.list [.int x]],rfl,by simp,?_⟩⟩
       refine t_loc rfl (t_callG (v:=.ref 184) rfl rfl (t_a1 (t_loc rfl (W_number (n:=n+K+1) (R.deeper _) hxS ?_))))
       refine s_dictI ok (upd_self ..) (by simp [dueKV];omega) fun ok'=>Nx.next (t_fit (frD1 d dd f k) ⟨rfl,rfl,rfl,rfl,rfl,trivial⟩ (T_nil ?_))
       refine i3 _ ⟨aset D2 x (0,[x]),?_,by have:=aset_len D2 x ((0:Int),[x]);exact om306 hD2l this,?_⟩
       ·rw [foldl_take _ _ _ _ _ hx,←hD2]
       ·rw [upd_upd,←sset_due];rfl
      ·rintro σ' ⟨D2,hD2,hD2l,rfl⟩
       rw [List.length_map] at hD2 hD2l
       rw [List.take_length] at hD2
       refine Nx.next (t_fit (frD0 d dd f) ⟨rfl,rfl,rfl,trivial⟩ (T_nil (i1 _ ⟨D2,?_,by omega,rfl⟩)))
       rw [foldl_take _ _ _ _ _ hk,←hD,hD1,hD2];rfl
   ·rintro σ' ⟨D,hD,hDl,rfl⟩
    have hD:D=dueOf K f:=hD
    subst hD
    have ok:FrOk (upd σ dd (some (.dictI (dueKV (dueOf K f))))) L (csDue L):=ok.re
    refine Nx.next (T_cons (T_ret (T_tup (T_spl_cons (t_cell rfl ok (T_spl_cons (t_loc rfl (T_spl_nil ⟨by simp,fun a ha=>?_⟩)) rfl)) rfl))))
    have hσa:=(fr_none ha).2.2
    have hne:=lay_new ha (upd_self ..)
    rw [upd_ne _ _ (Ne.symm hne)] at hσa
    rw [upd_fr_none _ ha]
    exact ⟨_,_,rfl,ok.new _ ha,h a dd hσa hddσ (Ne.symm hne)⟩
 ·rfl
 ·rcases List.mem_singleton.mp hy with rfl;exact .inr ⟨rfl,rfl⟩
 ·decide
 ·decide
 ·decide
end
end Mine
end
section
set_option maxHeartbeats 400000
namespace Mine
section
variable (p:Params)
theorem k40_set:findIn (KP p) (.ref 40) "__setattr__"=some (some (.builtin "object.__setattr__")):=by rfl
theorem k40_over:plainOver (KP p) 40=true:=by rfl
theorem k40_get (name:Str):plainGet (KP p) 40 name=true:=by rfl
theorem k40_tN:takerIn (KP p) 40 "node"=some (some (.ref 41)):=by rfl
theorem k40_tP:takerIn (KP p) 40 "npredecessors"=some (some (.ref 42)):=by rfl
theorem k40_tS:takerIn (KP p) 40 "successors"=some (some (.ref 43)):=by rfl
theorem k40_sN:slotIn (KP p) 41 40=some 0:=by rfl
theorem k40_sP:slotIn (KP p) 42 40=some 1:=by rfl
theorem k40_sS:slotIn (KP p) 43 40=some 2:=by rfl
theorem k40_ty (a:Addr) (h:a=41∨a=42∨a=43):typeIn (KP p) (.ref a)=some (.type "member_descriptor"):=by rcases h with rfl | rfl | rfl <;> rfl
theorem k40_make:makesIn (KP p) 40=true:=by rfl
theorem k40_init:findIn (KP p) (.ref 40) "__init__"=some (some (.ref 36)):=by rfl
theorem k40_initT:typeIn (KP p) (.ref 36)=some (.type "function"):=by rfl
end
noncomputable abbrev nodeO (dx:Addr) (k np:Int) (l:Addr):SObj:=.slots 40 dx [some (.d (.int k)),some (.d (.int np)),some (.ref l)]
section
variable {G:GC} {A:Around} {σ:Sig} {n:Nat} {Q:SV→Sig→Prop}
theorem W_nodeinit {x dx:Addr} {k:Int} (R:Rm (n+1) A) (hx:σ x=some (.slots 40 dx [])) (hdx:σ dx=some (.attrs [])) (h:∀ l,σ l=none→Q (.d .none) (upd (upd σ x (some (nodeO dx k 0 l))) l (some (.list [])))):CodeT G.c A (.ref 36) [.ref x,.d (.int k)] σ Q:=by
 have hne:dx≠x:=fun q=>by rw [q,hx] at hdx;cases hdx
 refine D_fnC (f:=36) [(Str.ofString "self",.ref x),(Str.ofString "node",.d (.int k))] (fun _=>[]) rfl ?_ R (fun F vs p=>?_) (fun L ok=>?_) (fun L=>?_) (fun L y hy=>?_) ?_ ?_ [Str.ofString "self",Str.ofString "node"] rfl ?_ rfl rfl rfl
 ·rfl
 ·exact pr2 (fun v a w b=>⟨_,fun S=>rfl,.cons ⟨rfl,a⟩ (.cons ⟨rfl,b⟩ .nil)⟩) p
 ·refine T_cons (t_asAttr (t_loc rfl <| t_loc rfl <| A_setS (p:=41) (i:=0) ok hx hdx (by decide) (fun ok=>?_) (k40_set _) (k40_over _) (k40_tN _) (k40_ty _ _ (.inl rfl)) (k40_sN _)))
  refine T_cons (t_asAttr (T_int <| t_loc rfl <| A_setS (p:=42) (i:=1) ok (upd_self ..) (by rw [upd_ne _ _ hne];exact hdx) (by decide) (fun ok=>?_) (k40_set _) (k40_over _) (k40_tP _) (k40_ty _ _ (.inr (.inl rfl))) (k40_sP _)))
  rw [upd_upd] at ok ⊢
  refine T_cons (t_asAttr (t_list0 ok fun l N=>t_loc rfl <| A_setS (p:=43) (i:=2) N.ok (by rw [upd_ne _ _ (lay_new N.whole (upd_self ..))];exact upd_self ..) (by rw [upd_ne _ _ (lay_new N.whole (by rw [upd_ne _ _ hne];exact hdx)),upd_ne _ _ hne];exact hdx) (by decide) (fun ok=>?_) (k40_set _) (k40_over _) (k40_tS _) (k40_ty _ _ (.inr (.inr rfl))) (k40_sS _)))
  have hxl:=lay_new N.whole (upd_self ..)
  have hl:=N.free
  rw [upd_ne _ _ (Ne.symm hxl)] at hl
  refine T_nil ⟨_,_,rfl,ok,?_⟩
  rw [upd_comm _ _ _ (Ne.symm hxl),upd_upd]
  exact h l hl
 ·rfl
 ·simp at hy;rcases hy with rfl | rfl <;> exact .inl rfl
 ·decide
 ·decide
 ·decide
theorem W_node {k:Int} (R:Rm (n+2) A) (h:∀ x dx l,σ x=none→σ dx=none→σ l=none→x≠dx→l≠x→l≠dx→Q (.ref x) (upd (upd (upd σ dx (some (.attrs []))) x (some (nodeO dx k 0 l))) l (some (.list [])))):CallT G.c A (.ref 40) [.d (.int k)] σ Q:=by
 refine C_make (n:=n+1) R (k40_make _) (k40_init _) (k40_initT _) (fun dx=>.slots 40 dx []) (fun _=>.inr rfl) fun A' x dx R' hx hdx hne=>?_
 refine W_nodeinit R' (upd_self ..) (by rw [upd_ne _ _ (Ne.symm hne)];exact upd_self ..) fun l hl=>⟨rfl,?_⟩
 have h1:l≠x:=fun q=>by rw [q,upd_self] at hl;cases hl
 rw [upd_ne _ _ h1] at hl
 have h2:l≠dx:=fun q=>by rw [q,upd_self] at hl;cases hl
 rw [upd_ne _ _ h2] at hl
 rw [upd_upd]
 exact h x dx l hx hdx hl hne h1 h2
end
end Mine
end
section
set_option maxHeartbeats 400000
namespace Mine
set_option genInjectivity false in
structure NR where
 k:Int
 ni:Addr
 dx:Addr
 l:Addr
 np:Int
 su:List Int
set_option genInjectivity false in
structure SS where
 x:Addr
 dx:Addr
 d:Addr
 rl:Option Addr
 rd:List Int
 po:Int
 nf:Int
 ns:List NR
noncomputable def SS.attrs (S:SS):List (Str×SV):=[(Str.ofString "_node2info",.ref S.d),(Str.ofString "_ready_nodes",match S.rl with | none=>.d .none | some a=>.ref a),(Str.ofString "_npassedout",.d (.int S.po)),(Str.ofString "_nfinished",.d (.int S.nf))]
noncomputable def SS.kv (S:SS):List (Int×SV):=S.ns.map fun r=>(r.k,.ref r.ni)
structure Gph (σ:Sig) (S:SS):Prop where
 hx:σ S.x=some (.obj (instO 137 S.dx))
 hdx:σ S.dx=some (.attrs S.attrs)
 hd:σ S.d=some (.dictI S.kv)
 hr:∀ a,S.rl=some a→σ a=some (.list (intsL S.rd))
 hn:∀ r∈S.ns,σ r.ni=some (nodeO r.dx r.k r.np r.l)∧σ r.dx=some (.attrs [])∧σ r.l=some (.list (intsL r.su))
 keys:(S.ns.map (·.k)).Nodup
 lists:(S.ns.map (·.l)).Nodup
 apart:∀ a,S.rl=some a→a∉S.ns.map (·.l)
noncomputable def SS.setNp (S:SS) (k:Int) (v:Int):SS:={ S with ns:=S.ns.map fun r=>if r.k=k then { r with np:=v } else r }
noncomputable def SS.addSu (S:SS) (k:Int) (y:Int):SS:={ S with ns:=S.ns.map fun r=>if r.k=k then { r with su:=r.su++[y] } else r }
section
variable {σ:Sig} {S:SS}
theorem key_uniq {ns:List NR} (h:(ns.map (·.k)).Nodup) {a b:NR} (ha:a∈ns) (hb:b∈ns) (e:a.k=b.k):a=b:=by
 induction ns with
 | nil=>cases ha
 | cons x r ih =>
  rw [List.map_cons,List.nodup_cons] at h
  rcases List.mem_cons.mp ha with e1 | ha' <;> rcases List.mem_cons.mp hb with e2 | hb'
  ·rw [e1,e2]
  ·exact absurd (List.mem_map.mpr ⟨b,hb',by rw [←e,e1]⟩) h.1
  ·exact absurd (List.mem_map.mpr ⟨a,ha',by rw [e,e2]⟩) h.1
  ·exact ih h.2 ha' hb'
theorem list_uniq {ns:List NR} (h:(ns.map (·.l)).Nodup) {a b:NR} (ha:a∈ns) (hb:b∈ns) (e:a.l=b.l):a=b:=by
 induction ns with
 | nil=>cases ha
 | cons x r ih =>
  rw [List.map_cons,List.nodup_cons] at h
  rcases List.mem_cons.mp ha with e1 | ha' <;> rcases List.mem_cons.mp hb with e2 | hb'
  ·rw [e1,e2]
  ·exact absurd (List.mem_map.mpr ⟨b,hb',by rw [←e,e1]⟩) h.1
  ·exact absurd (List.mem_map.mpr ⟨a,ha',by rw [e,e2]⟩) h.1
  ·exact ih h.2 ha' hb'
theorem Gph.setNp (G:Gph σ S) {r:NR} (hr:r∈S.ns) (v:Int):Gph (upd σ r.ni (some (nodeO r.dx r.k v r.l))) (S.setNp r.k v):=by
 obtain ⟨h1,h2,h3⟩:=G.hn r hr
 have ne:∀ {a:Addr} {o:SObj},σ a=some o→o≠nodeO r.dx r.k r.np r.l→a≠r.ni:=fun ha hne q=>by rw [q,h1] at ha;exact hne (Option.some.inj ha).symm
 refine ⟨?_,?_,?_,fun a ha=>?_,fun q hq=>?_,?_,?_,fun a ha=>?_⟩
 ·exact (upd_ne _ _ (ne G.hx (by intro h;cases h))).trans G.hx
 ·exact (upd_ne _ _ (ne G.hdx (by intro h;cases h))).trans G.hdx
 ·refine (upd_ne _ _ (ne G.hd (by intro h;cases h))).trans ?_
  rw [show (S.setNp r.k v).kv=S.kv by
   unfold SS.kv SS.setNp
   rw [List.map_map]
   exact List.map_congr_left fun q _=>by simp only [Function.comp];split <;> rfl]
  exact G.hd
 ·have:=G.hr a ha
  rw [upd_ne _ _ (ne this (by intro h;cases h))];exact this
 ·obtain ⟨q0,hq0,rfl⟩:=List.mem_map.mp hq
  obtain ⟨a1,a2,a3⟩:=G.hn q0 hq0
  by_cases e:q0.k=r.k
  ·have:=key_uniq G.keys hq0 hr e
   subst this
   rw [if_pos rfl]
   exact ⟨upd_self ..,by rw [upd_ne _ _ (ne a2 (by intro h;cases h))];exact a2,by rw [upd_ne _ _ (ne a3 (by intro h;cases h))];exact a3⟩
  ·rw [if_neg e]
   exact ⟨by rw [upd_ne _ _ (ne a1 (by intro h;simp at h;exact e h.2.1))];exact a1,by rw [upd_ne _ _ (ne a2 (by intro h;cases h))];exact a2,by rw [upd_ne _ _ (ne a3 (by intro h;cases h))];exact a3⟩
 ·have:(S.setNp r.k v).ns.map (·.k)=S.ns.map (·.k):=by
   unfold SS.setNp;rw [List.map_map];exact List.map_congr_left fun q _=>by simp only [Function.comp];split <;> rfl
  rw [this];exact G.keys
 ·have:(S.setNp r.k v).ns.map (·.l)=S.ns.map (·.l):=by
   unfold SS.setNp;rw [List.map_map];exact List.map_congr_left fun q _=>by simp only [Function.comp];split <;> rfl
  rw [this];exact G.lists
 ·have:(S.setNp r.k v).ns.map (·.l)=S.ns.map (·.l):=by
   unfold SS.setNp;rw [List.map_map];exact List.map_congr_left fun q _=>by simp only [Function.comp];split <;> rfl
  rw [this];exact G.apart a ha
theorem Gph.addSu (G:Gph σ S) {r:NR} (hr:r∈S.ns) (y:Int):Gph (upd σ r.l (some (.list (intsL (r.su++[y]))))) (S.addSu r.k y):=by
 obtain ⟨h1,h2,h3⟩:=G.hn r hr
 have ne:∀ {a:Addr} {o:SObj},σ a=some o→(∀ xs,o≠.list xs)→a≠r.l:=fun ha hne q=>by rw [q,h3] at ha;exact hne _ (Option.some.inj ha).symm
 have hl:(S.addSu r.k y).ns.map (·.l)=S.ns.map (·.l):=by
  unfold SS.addSu;rw [List.map_map];exact List.map_congr_left fun q _=>by simp only [Function.comp];split <;> rfl
 refine ⟨?_,?_,?_,fun a ha=>?_,fun q hq=>?_,?_,?_,fun a ha=>?_⟩
 ·exact (upd_ne _ _ (ne G.hx (by intro xs h;cases h))).trans G.hx
 ·exact (upd_ne _ _ (ne G.hdx (by intro xs h;cases h))).trans G.hdx
 ·refine (upd_ne _ _ (ne G.hd (by intro xs h;cases h))).trans ?_
  rw [show (S.addSu r.k y).kv=S.kv by
   unfold SS.kv SS.addSu
   rw [List.map_map]
   exact List.map_congr_left fun q _=>by simp only [Function.comp];split <;> rfl]
  exact G.hd
 ·have:=G.hr a ha
  rw [upd_ne _ _ (fun q=>G.apart a ha (by rw [q];exact List.mem_map.mpr ⟨r,hr,rfl⟩))];exact this
 ·obtain ⟨q0,hq0,rfl⟩:=List.mem_map.mp hq
  obtain ⟨a1,a2,a3⟩:=G.hn q0 hq0
  by_cases e:q0.k=r.k
  ·have:=key_uniq G.keys hq0 hr e
   subst this
   rw [if_pos rfl]
   exact ⟨by rw [upd_ne _ _ (ne a1 (by intro xs h;cases h))];exact a1,by rw [upd_ne _ _ (ne a2 (by intro xs h;cases h))];exact a2,upd_self ..⟩
  ·rw [if_neg e]
   exact ⟨by rw [upd_ne _ _ (ne a1 (by intro xs h;cases h))];exact a1,by rw [upd_ne _ _ (ne a2 (by intro xs h;cases h))];exact a2,by rw [upd_ne _ _ (fun q=>e (by rw [list_uniq G.lists hq0 hr q]))];exact a3⟩
 ·have:(S.addSu r.k y).ns.map (·.k)=S.ns.map (·.k):=by
   unfold SS.addSu;rw [List.map_map];exact List.map_congr_left fun q _=>by simp only [Function.comp];split <;> rfl
  rw [this];exact G.keys
 ·rw [hl];exact G.lists
 ·rw [hl];exact G.apart a ha
noncomputable def SS.node (S:SS) (r:NR):SS:={ S with ns:=S.ns++[r] }
theorem Gph.node (G:Gph σ S) {r:NR} (hk:r.k∉S.ns.map (·.k)) (hx:σ r.ni=none) (hdx:σ r.dx=none) (hl:σ r.l=none) (n1:r.ni≠r.dx) (n2:r.l≠r.ni) (n3:r.l≠r.dx) :
  Gph (upd (upd (upd (upd σ r.dx (some (.attrs []))) r.ni (some (nodeO r.dx r.k r.np r.l))) r.l (some (.list (intsL r.su)))) S.d (some (.dictI (S.node r).kv))) (S.node r):=by
 have fr:∀ {a b:Addr} {o:SObj},σ a=some o→σ b=none→a≠b:=fun ha hb q=>by rw [q,hb] at ha;cases ha
 have old:∀ {a:Addr} {o:SObj},σ a=some o→a≠S.d→upd (upd (upd (upd σ r.dx (some (.attrs []))) r.ni (some (nodeO r.dx r.k r.np r.l))) r.l (some (.list (intsL r.su)))) S.d (some (.dictI (S.node r).kv)) a=some o:=fun ha hd=>by
  rw [upd_ne _ _ hd,upd_ne _ _ (fr ha hl),upd_ne _ _ (fr ha hx),upd_ne _ _ (fr ha hdx)];exact ha
 have ne:∀ {a:Addr} {o:SObj},σ a=some o→(∀ kv,o≠.dictI kv)→a≠S.d:=fun ha hne q=>by rw [q,G.hd] at ha;exact hne _ (Option.some.inj ha).symm
 have d1:=fr G.hd hdx
 have d2:=fr G.hd hx
 have d3:=fr G.hd hl
 refine ⟨?_,?_,upd_self ..,fun a ha=>?_,fun q hq=>?_,?_,?_,fun a ha=>?_⟩
 ·exact old G.hx (ne G.hx (by intro xs h;cases h))
 ·exact old G.hdx (ne G.hdx (by intro xs h;cases h))
 ·have:=G.hr a ha
  exact old this (ne this (by intro xs h;cases h))
 ·rcases List.mem_append.mp hq with hq | hq
  ·obtain ⟨a1,a2,a3⟩:=G.hn q hq
   exact ⟨old a1 (ne a1 (by intro xs h;cases h)),old a2 (ne a2 (by intro xs h;cases h)),old a3 (ne a3 (by intro xs h;cases h))⟩
  ·rw [List.mem_singleton.mp hq]
   exact ⟨by rw [upd_ne _ _ (Ne.symm d2),upd_ne _ _ (Ne.symm n2),upd_self],by rw [upd_ne _ _ (Ne.symm d1),upd_ne _ _ (Ne.symm n3),upd_ne _ _ (Ne.symm n1),upd_self],by rw [upd_ne _ _ (Ne.symm d3),upd_self]⟩
 ·show ((S.ns++[r]).map (·.k)).Nodup
  rw [List.map_append,List.nodup_append]
  exact ⟨G.keys,by simp,fun a ha b hb=>by rw [List.mem_singleton.mp hb];rintro rfl;exact hk ha⟩
 ·show ((S.ns++[r]).map (·.l)).Nodup
  rw [List.map_append,List.nodup_append]
  refine ⟨G.lists,by simp,fun a ha b hb=>?_⟩
  rw [List.mem_singleton.mp hb]
  obtain ⟨q,hq,rfl⟩:=List.mem_map.mp ha
  exact fr (G.hn q hq).2.2 hl
 ·show a∉(S.ns++[r]).map (·.l)
  rw [List.map_append]
  intro h
  rcases List.mem_append.mp h with h | h
  ·exact G.apart a ha h
  ·rw [List.mem_singleton.mp h] at ha
   exact fr (G.hr _ ha) hl rfl
theorem kv_get (hk:(S.ns.map (·.k)).Nodup) {r:NR} (hr:r∈S.ns):sget S.kv r.k=some (.ref r.ni):=by
 unfold SS.kv
 generalize S.ns=ns at hk hr
 induction ns with
 | nil=>cases hr
 | cons q t ih =>
  rw [List.map_cons,List.nodup_cons] at hk
  unfold sget at ih ⊢
  rw [List.map_cons,List.find?_cons]
  rcases List.mem_cons.mp hr with e | hr'
  ·rw [e];simp
  ·have:q.k≠r.k:=fun z=>hk.1 (by rw [z];exact List.mem_map.mpr ⟨r,hr',rfl⟩)
   simp only [decide_eq_false this]
   exact ih hk.2 hr'
theorem kv_none {k:Int} (hk:k∉S.ns.map (·.k)):sget S.kv k=none:=by
 unfold SS.kv sget
 rw [List.find?_eq_none.mpr];rfl
 intro p hp
 obtain ⟨q,hq,rfl⟩:=List.mem_map.mp hp
 simp only [decide_eq_true_eq]
 exact fun z=>hk (by rw [←z];exact List.mem_map.mpr ⟨q,hq,rfl⟩)
theorem kv_node {r:NR} (hk:r.k∉S.ns.map (·.k)):sset S.kv r.k (.ref r.ni)=(S.node r).kv:=by
 unfold sset
 rw [if_neg]
 ·unfold SS.kv SS.node;simp
 ·intro h
  obtain ⟨p,hp,e⟩:=List.any_eq_true.mp h
  obtain ⟨q,hq,rfl⟩:=List.mem_map.mp hp
  exact hk (by rw [←of_decide_eq_true e];exact List.mem_map.mpr ⟨q,hq,rfl⟩)
noncomputable def unfr (σ:Sig) (L:Addr) (cs:List (Str×Addr)):Sig:=fun a=>if a=L then none else match cs.find? (fun p=>p.2 == a) with
 | some _=>none
 | none=>σ a
theorem unfr_eq {σ σ':Sig} {L:Addr} {cs:List (Str×Addr)} {m:Str→Option SV} (h1:σ' L=fr σ L cs m L) (h2:∀ p∈cs,σ' p.2=fr σ L cs m p.2):σ'=fr (unfr σ' L cs) L cs m:=by
 funext a
 unfold fr unfr at *
 by_cases q:a=L
 ·subst q;rw [h1];simp
 ·rw [if_neg q]
  cases e:cs.find? (fun p=>p.2 == a) with
  | none=>simp only [if_neg q,e]
  | some p =>
   have hp:=List.mem_of_find?_eq_some e
   have e2:p.2=a:=by simpa using List.find?_some e
   have:=h2 p hp
   rw [e2] at this
   rw [this,if_neg q,e]
theorem unfr_ok {σ σ':Sig} {L:Addr} {cs:List (Str×Addr)} (ok:FrOk σ L cs):FrOk (unfr σ' L cs) L cs:=by
 refine ⟨by unfold unfr;rw [if_pos rfl],fun p hp=>⟨?_,(ok.cell p hp).2⟩,ok.names,ok.apart⟩
 unfold unfr
 rw [if_neg (ok.cell p hp).2,find_cell ok.apart hp]
theorem unfr_keep {σ σ':Sig} {L:Addr} {cs:List (Str×Addr)} {m:Str→Option SV} {a:Addr} {o:SObj} (h1:σ' L=fr σ L cs m L) (h2:∀ p∈cs,σ' p.2=fr σ L cs m p.2) (ok:FrOk σ L cs) (ha:σ' a=some o) (hn:∀ x,o≠.ns x) (hc:∀ x,o≠.cell x):unfr σ' L cs a=some o:=by
 unfold unfr
 by_cases q:a=L
 ·rw [q,h1,fr_self] at ha;exact absurd (Option.some.inj ha).symm (hn _)
 ·rw [if_neg q]
  cases e:cs.find? (fun p=>p.2 == a) with
  | none=>exact ha
  | some p =>
   have hp:=List.mem_of_find?_eq_some e
   have e2:p.2=a:=by simpa using List.find?_some e
   have:=h2 p hp
   rw [e2,ha] at this
   rw [←e2,fr_cell ok (lookup_of_mem ok.names (show (p.1,p.2)∈cs from hp))] at this
   exact absurd (Option.some.inj this) (hc _)
theorem Gph.unfr {σ':Sig} {L:Addr} {cs:List (Str×Addr)} {m:Str→Option SV} (G:Gph σ' S) (h1:σ' L=fr σ L cs m L) (h2:∀ p∈cs,σ' p.2=fr σ L cs m p.2) (ok:FrOk σ L cs):Gph (unfr σ' L cs) S where
 hx:=unfr_keep h1 h2 ok G.hx (by intro _ h;cases h) (by intro _ h;cases h)
 hdx:=unfr_keep h1 h2 ok G.hdx (by intro _ h;cases h) (by intro _ h;cases h)
 hd:=unfr_keep h1 h2 ok G.hd (by intro _ h;cases h) (by intro _ h;cases h)
 hr:=fun a ha=>unfr_keep h1 h2 ok (G.hr a ha) (by intro _ h;cases h) (by intro _ h;cases h)
 hn:=fun r hr=>⟨unfr_keep h1 h2 ok (G.hn r hr).1 (by intro _ h;cases h) (by intro _ h;cases h),unfr_keep h1 h2 ok (G.hn r hr).2.1 (by intro _ h;cases h) (by intro _ h;cases h),unfr_keep h1 h2 ok (G.hn r hr).2.2 (by intro _ h;cases h) (by intro _ h;cases h)⟩
 keys:=G.keys
 lists:=G.lists
 apart:=G.apart
theorem Gph.fr {L:Addr} {cs:List (Str×Addr)} {m:Str→Option SV} (G:Gph σ S) (ok:FrOk σ L cs):Gph (fr σ L cs m) S where
 hx:=fr_some ok G.hx
 hdx:=fr_some ok G.hdx
 hd:=fr_some ok G.hd
 hr:=fun a ha=>fr_some ok (G.hr a ha)
 hn:=fun r hr=>⟨fr_some ok (G.hn r hr).1,fr_some ok (G.hn r hr).2.1,fr_some ok (G.hn r hr).2.2⟩
 keys:=G.keys
 lists:=G.lists
 apart:=G.apart
end
end Mine
end
section
set_option maxHeartbeats 400000
namespace Mine
section
variable (p:Params)
theorem k137_set:findIn (KP p) (.ref 137) "__setattr__"=some (some (.builtin "object.__setattr__")):=by rfl
theorem k137_over:plainOver (KP p) 137=true:=by rfl
theorem k137_get (name:Str):plainGet (KP p) 137 name=true:=by rfl
theorem k137_dict:hasDictIn (KP p) 137=true:=by rfl
theorem k137_f1:findIn (KP p) (.ref 137) "_node2info"=some none:=by rfl
theorem k137_f2:findIn (KP p) (.ref 137) "_ready_nodes"=some none:=by rfl
theorem k137_f3:findIn (KP p) (.ref 137) "_npassedout"=some none:=by rfl
theorem k137_f4:findIn (KP p) (.ref 137) "_nfinished"=some none:=by rfl
theorem k137_t1:takerIn (KP p) 137 "_node2info"=some none:=by rfl
theorem k137_t2:takerIn (KP p) 137 "_ready_nodes"=some none:=by rfl
theorem k137_t3:takerIn (KP p) 137 "_npassedout"=some none:=by rfl
theorem k137_t4:takerIn (KP p) 137 "_nfinished"=some none:=by rfl
theorem k137_make:makesIn (KP p) 137=true:=by rfl
theorem k137_init:findIn (KP p) (.ref 137) "__init__"=some (some (.ref 73)):=by rfl
theorem k137_initT:typeIn (KP p) (.ref 73)=some (.type "function"):=by rfl
theorem k137_m1:findIn (KP p) (.ref 137) "_get_nodeinfo"=some (some (.ref 80)):=by rfl
end
section
variable {c:Cfg} {σ:Sig}
theorem handed_ref {a:Addr}:Handed c σ (.ref a):=fun F s v _ r=>by
 have:v=.ref a:=r
 subst this;rfl
theorem handed_int {i:Int}:Handed c σ (.d (.int i)):=fun F s v _ r=>by obtain ⟨t,rfl⟩:=rd_int r;rfl
theorem handed_none:Handed c σ (.d .none):=fun F s v _ r=>by obtain rfl:=rd_none r;rfl
end
noncomputable def Off (σ σ':Sig) (S:SS):Prop:=∀ a o,σ a=some o→a≠S.dx→a≠S.d→(∀ b,S.rl=some b→a≠b)→(∀ r∈S.ns,a≠r.ni∧a≠r.l)→σ' a=some o
theorem Off.refl (σ:Sig) (S:SS):Off σ σ S:=fun _ _ h _ _ _ _=>h
section
variable {G:GC} {A:Around} {σ:Sig} {n:Nat} {Q:SV→Sig→Prop}
theorem W_getinfo {S:SS} {k:Int} (R:Rm (n+3) A) (g:Gph σ S) (hz:S.ns.length≤100) (h1:∀ r∈S.ns,r.k=k→Q (.ref r.ni) σ)
  (h2:k∉S.ns.map (·.k)→∀ r σ',r.k=k→r.np=0→r.su=[]→σ r.ni=none→σ r.l=none→Gph σ' (S.node r)→Off σ σ' S→Q (.ref r.ni) σ'):CallT G.c A (.ref 80) [.ref S.x,.d (.int k)] σ Q:=by
 refine C_fnC (f:=80) [(Str.ofString "self",.ref S.x),(Str.ofString "node",.d (.int k))] (fun _=>[]) rfl ?_ R (fun F vs p=>?_) (fun L ok=>?_) (fun L=>?_) (fun L y hy=>?_) ?_ ?_ [Str.ofString "self",Str.ofString "node"] rfl ?_ rfl rfl rfl
 ·rfl
 ·exact pr2 (fun v a w b=>⟨_,fun S=>rfl,.cons ⟨rfl,a⟩ (.cons ⟨rfl,b⟩ .nil)⟩) p
 ·have hd:DictR G.c (intKind G.c.prog G.c.w) (fr σ L [] (mkm [(Str.ofString "self",.ref S.x),(Str.ofString "node",.d (.int k))])) S.d S.kv:=DictR.I (.inl (fr_some ok g.hd))
  refine T_cons (T_if (t_isCmp (T_named (t_meth m_get (t_attr (t_loc rfl <| A_get (.inl (fr_some ok g.hx)) (.inl (fr_some ok g.hdx)) rfl handed_ref ⟨oft_dict hd,t_a1 (t_loc rfl <| D_get1 hd KeyR.int <| t_st ?_)⟩ (k137_get _ _) (k137_dict _) (k137_f1 _) rfl))))))
  by_cases hk:k∈S.ns.map (·.k)
  ·obtain ⟨r,hr,hrk⟩:=List.mem_map.mp hk
   have hrk:r.k=k:=hrk
   rw [←hrk,kv_get g.keys hr]
   refine T_none (O_isNone none_ref (truth_bool ⟨nofun,fun _=>?_⟩))
   exact T_nil (Nx.next (T_cons (T_ret (t_loc rfl ⟨σ,_,rfl,ok,h1 r hr hrk⟩))))
  ·rw [kv_none hk,Option.getD_none]
   refine T_none (O_isNone none_none (truth_bool ⟨fun _=>?_,nofun⟩))
   refine T_cons (T_assign2 (t_callG (v:=.ref 40) rfl rfl (t_a1 (t_loc rfl (W_node (R.deeper _) fun x dx l hx hdx hl n1 n2 n3=>?_)))) rfl rfl)
   have sx:=(fr_none hx).2.2
   have sd:=(fr_none hdx).2.2
   have sl:=(fr_none hl).2.2
   rw [upd_fr_none _ hdx]
   have ok:=ok.new (some (.attrs [])) hdx
   have hx':fr (upd σ dx (some (.attrs []))) L [] (setm (mkm [(Str.ofString "self",.ref S.x),(Str.ofString "node",.d (.int k))]) (Str.ofString "result") (.d .none)) x=none:=by
    rw [←upd_fr_none _ hdx,upd_ne _ _ n1];exact hx
   rw [upd_fr_none _ hx']
   have ok:=ok.new (some (nodeO dx k 0 l)) hx'
   have hl':fr (upd (upd σ dx (some (.attrs []))) x (some (nodeO dx k 0 l))) L [] (setm (mkm [(Str.ofString "self",.ref S.x),(Str.ofString "node",.d (.int k))]) (Str.ofString "result") (.d .none)) l=none:=by
    rw [←upd_fr_none _ hx',upd_ne _ _ n2,←upd_fr_none _ hdx,upd_ne _ _ n3];exact hl
   rw [upd_fr_none _ hl']
   have ok:=ok.new (some (.list [])) hl'
   have gn:=g.node (r:=⟨k,x,dx,l,0,[]⟩) hk sx sd sl n1 n2 n3
   have e1:∀ {a:Addr} {o:SObj},σ a=some o→upd (upd (upd σ dx (some (.attrs []))) x (some (nodeO dx k 0 l))) l (some (.list [])) a=some o:=fun ha=>by
    rw [upd_ne _ _ (fun q=>by rw [q,sl] at ha;cases ha),upd_ne _ _ (fun q=>by rw [q,sx] at ha;cases ha),upd_ne _ _ (fun q=>by rw [q,sd] at ha;cases ha)];exact ha
   refine T_assSub (t_attr (t_loc rfl <| A_get (.inl (fr_some ok (e1 g.hx))) (.inl (fr_some ok (e1 g.hdx))) rfl handed_ref (t_loc rfl <| s_dictI ok (e1 g.hd) (by simp [SS.kv];exact om93 hz) fun ok=>?_) (k137_get _ _) (k137_dict _) (k137_f1 _) rfl))
   rw [kv_node (r:=⟨k,x,dx,l,0,[]⟩) hk] at ok ⊢
   refine t_asN (Nx.next (T_nil (Nx.next (T_cons (T_ret (t_loc rfl ⟨_,_,rfl,ok,h2 hk ⟨k,x,dx,l,0,[]⟩ _ rfl rfl rfl sx sl gn fun a o ha _ b2 _ _=>?_⟩))))))
   rw [upd_ne _ _ b2];exact e1 ha
 ·rfl
 ·simp at hy;rcases hy with rfl | rfl <;> exact .inl rfl
 ·decide
 ·decide
 ·decide
end
end Mine
end
section
set_option maxHeartbeats 400000
namespace Mine
section
variable {G:GC} {A:Around} {σ:Sig} {n:Nat} {Q:SV→Sig→Prop}
theorem len900 {k:Nat} (h:k≤900) {l:List (Str×SV)} (e:autoParam (l.length=k) aR):l.length≤900:=e▸h
noncomputable def newS (x dx d:Addr):SS:=⟨x,dx,d,none,[],0,0,[]⟩
theorem W_init0 {x dx:Addr} (R:Rm (n+1) A) (hx:σ x=some (.obj (instO 137 dx))) (hdx:σ dx=some (.attrs [])) (h:∀ d σ',σ d=none→Gph σ' (newS x dx d)→(∀ a o,σ a=some o→a≠dx→σ' a=some o)→Q (.d .none) σ'):CodeT G.c A (.ref 73) [.ref x] σ Q:=by
 refine D_fnC (f:=73) [(Str.ofString "self",.ref x),(Str.ofString "graph",.d .none)] (fun _=>[]) rfl ?_ R (fun F vs p=>?_) (fun L ok=>?_) (fun L=>?_) (fun L y hy=>?_) ?_ ?_ [Str.ofString "self",Str.ofString "graph"] rfl ?_ rfl rfl rfl
 ·rfl
 ·exact pr1 (fun v a=>⟨_,fun S=>rfl,.cons ⟨rfl,a⟩ (.cons ⟨rfl,rel_none⟩ .nil)⟩) p
 ·have hne:dx≠x:=fun q=>by rw [q,hx] at hdx;cases hdx
  refine T_cons (t_asAttr (t_dict0I ok fun d N=>t_loc rfl <| A_set N.ok (by rw [upd_ne _ _ (lay_new N.whole hx)];exact hx) (by rw [upd_ne _ _ (lay_new N.whole hdx)];exact hdx) (by decide) (fun ok=>?_) (k137_set _) (k137_over _) (k137_t1 _) (k137_dict _)))
  have hd:=N.free
  have nd:=lay_new N.whole hdx
  have nx:=lay_new N.whole hx
  refine T_cons (t_asAttr (T_none <| t_loc rfl <| A_set ok (by rw [upd_ne _ _ (Ne.symm hne),upd_ne _ _ nx];exact hx) (upd_self ..) (len900 (k:=1) (by decide)) (fun ok=>?_) (k137_set _) (k137_over _) (k137_t2 _) (k137_dict _)))
  rw [upd_upd] at ok ⊢
  refine T_cons (t_asAttr (T_int <| t_loc rfl <| A_set ok (by rw [upd_ne _ _ (Ne.symm hne),upd_ne _ _ nx];exact hx) (upd_self ..) (len900 (k:=2) (by decide)) (fun ok=>?_) (k137_set _) (k137_over _) (k137_t3 _) (k137_dict _)))
  rw [upd_upd] at ok ⊢
  refine T_cons (t_asAttr (T_int <| t_loc rfl <| A_set ok (by rw [upd_ne _ _ (Ne.symm hne),upd_ne _ _ nx];exact hx) (upd_self ..) (len900 (k:=3) (by decide)) (fun ok=>?_) (k137_set _) (k137_over _) (k137_t4 _) (k137_dict _)))
  rw [upd_upd] at ok ⊢
  refine T_cons (T_if (t_isCmp (t_loc rfl <| T_none <| O_isNotNone none_none <| truth_bool ⟨nofun,fun _=>?_⟩)))
  refine T_nil (Nx.next (T_nil ⟨_,_,rfl,ok,h d _ hd ⟨?_,?_,?_,nofun,nofun,.nil,.nil,nofun⟩ fun a o ha hn=>?_⟩))
  ·show upd _ _ _ x=_
   rw [upd_ne _ _ (Ne.symm hne),upd_ne _ _ nx];exact hx
  ·exact upd_self ..
  ·show upd _ _ _ d=_
   rw [upd_ne _ _ (Ne.symm nd),upd_self];rfl
  ·rw [upd_ne _ _ hn,upd_ne _ _ (fun q=>by rw [q,hd] at ha;cases ha)];exact ha
 ·rfl
 ·simp at hy;rcases hy with rfl | rfl <;> exact .inl rfl
 ·decide
 ·decide
 ·decide
end
end Mine
end
section
set_option maxHeartbeats 400000
namespace Mine
set_option genInjectivity false in
structure GN where
 k:Int
 np:Int
 su:List Int
noncomputable abbrev AG:=List GN
noncomputable def absG (S:SS):AG:=S.ns.map fun r=>⟨r.k,r.np,r.su⟩
noncomputable def gHas (g:AG) (k:Int):Bool:=g.any fun r=>r.k == k
noncomputable def gGet (g:AG) (k:Int):AG:=if gHas g k then g else g++[⟨k,0,[]⟩]
noncomputable def gNp (g:AG) (k:Int) (f:Int→Int):AG:=g.map fun r=>if r.k=k then { r with np:=f r.np } else r
noncomputable def gSu (g:AG) (k y:Int):AG:=g.map fun r=>if r.k=k then { r with su:=r.su++[y] } else r
noncomputable def gPred (node:Int) (g:AG) (p:Int):AG:=gSu (gGet g p) p node
noncomputable def gAdd (g:AG) (node:Int) (ps:List Int):AG:=ps.foldl (gPred node) (gNp (gGet g node) node (·+ps.length))
structure Grow (σ σ':Sig) (S S':SS):Prop where
 off:Off σ σ' S
 x:S'.x=S.x
 dx:S'.dx=S.dx
 d:S'.d=S.d
 rl:S'.rl=S.rl
 ns:∀ r'∈S'.ns,(∃ r∈S.ns,r.ni=r'.ni∧r.l=r'.l)∨(σ r'.ni=none∧σ r'.l=none)
theorem Grow.refl (σ:Sig) (S:SS):Grow σ σ S S:=⟨Off.refl σ S,rfl,rfl,rfl,rfl,fun r hr=>.inl ⟨r,hr,rfl,rfl⟩⟩
theorem Grow.trans {σ σ1 σ2:Sig} {S S1 S2:SS} (a:Grow σ σ1 S S1) (b:Grow σ1 σ2 S1 S2) (live:∀ x o,σ x=some o→∃ o',σ1 x=some o'):Grow σ σ2 S S2:=by
 refine ⟨fun x o hx h1 h2 h3 h4=>?_,b.x.trans a.x,b.dx.trans a.dx,b.d.trans a.d,b.rl.trans a.rl,fun r hr=>?_⟩
 ·refine b.off x o (a.off x o hx h1 h2 h3 h4) (by rw [a.dx];exact h1) (by rw [a.d];exact h2) (fun c hc=>h3 c (by rw [←a.rl];exact hc)) fun r hr=>?_
  rcases a.ns r hr with ⟨q,hq,e1,e2⟩ | ⟨e1,e2⟩
  ·rw [←e1,←e2];exact h4 q hq
  ·exact ⟨(fun z=>by rw [z,e1] at hx;cases hx),(fun z=>by rw [z,e2] at hx;cases hx)⟩
 ·rcases b.ns r hr with ⟨q,hq,e1,e2⟩ | ⟨e1,e2⟩
  ·rcases a.ns q hq with ⟨q',hq',e3,e4⟩ | ⟨e3,e4⟩
   ·exact .inl ⟨q',hq',e3.trans e1,e4.trans e2⟩
   ·exact .inr ⟨by rw [←e1];exact e3,by rw [←e2];exact e4⟩
  ·refine .inr ⟨?_,?_⟩
   ·cases e:σ r.ni with
    | none=>rfl
    | some o=>obtain ⟨o',e'⟩:=live _ _ e;rw [e1] at e';cases e'
   ·cases e:σ r.l with
    | none=>rfl
    | some o=>obtain ⟨o',e'⟩:=live _ _ e;rw [e2] at e';cases e'
structure SameS (S S':SS):Prop where
 x:S'.x=S.x
 dx:S'.dx=S.dx
 d:S'.d=S.d
 rl:S'.rl=S.rl
 rd:S'.rd=S.rd
 po:S'.po=S.po
 nf:S'.nf=S.nf
noncomputable def Live (σ σ':Sig):Prop:=∀ x o,σ x=some o→∃ o',σ' x=some o'
theorem gHas_abs {S:SS} {k:Int}:gHas (absG S) k=true↔k∈S.ns.map (·.k):=by
 unfold gHas absG
 rw [List.any_map,List.any_eq_true]
 constructor
 ·rintro ⟨r,hr,e⟩
  exact List.mem_map.mpr ⟨r,hr,by simpa using e⟩
 ·intro h
  obtain ⟨r,hr,e⟩:=List.mem_map.mp h
  exact ⟨r,hr,by simpa using e⟩
end Mine
end
section
set_option maxHeartbeats 400000
namespace Mine
structure Step (σ σ':Sig) (S S':SS):Prop where
 gph:Gph σ' S'
 same:SameS S S'
 grow:Grow σ σ' S S'
 live:Live σ σ'
theorem SameS.refl (S:SS):SameS S S:=⟨rfl,rfl,rfl,rfl,rfl,rfl,rfl⟩
theorem SameS.trans {S S1 S2:SS} (a:SameS S S1) (b:SameS S1 S2):SameS S S2:=⟨b.x.trans a.x,b.dx.trans a.dx,b.d.trans a.d,b.rl.trans a.rl,b.rd.trans a.rd,b.po.trans a.po,b.nf.trans a.nf⟩
theorem Live.refl (σ:Sig):Live σ σ:=fun _ o h=>⟨o,h⟩
theorem Live.trans {σ σ1 σ2:Sig} (a:Live σ σ1) (b:Live σ1 σ2):Live σ σ2:=fun x o h=>let ⟨o',h'⟩:=a x o h;b x o' h'
theorem Step.refl {σ:Sig} {S:SS} (G:Gph σ S):Step σ σ S S:=⟨G,.refl S,.refl σ S,.refl σ⟩
theorem Step.trans {σ σ1 σ2:Sig} {S S1 S2:SS} (a:Step σ σ1 S S1) (b:Step σ1 σ2 S1 S2):Step σ σ2 S S2:=⟨b.gph,a.same.trans b.same,a.grow.trans b.grow a.live,a.live.trans b.live⟩
section
variable {σ σ':Sig} {S S':SS} {L:Addr} {cs:List (Str×Addr)} {m:Str→Option SV}
theorem Gph.own (G:Gph σ S) {a:Addr} (h:σ a=none):a≠S.dx∧a≠S.d∧(∀ b,S.rl=some b→a≠b)∧∀ r∈S.ns,a≠r.ni∧a≠r.l:=by
 refine ⟨fun q=>?_,fun q=>?_,fun b hb q=>?_,fun r hr=>⟨fun q=>?_,fun q=>?_⟩⟩
 ·rw [q,G.hdx] at h;cases h
 ·rw [q,G.hd] at h;cases h
 ·rw [q,G.hr b hb] at h;cases h
 ·rw [q,(G.hn r hr).1] at h;cases h
 ·rw [q,(G.hn r hr).2.2] at h;cases h
theorem unfr_off {a:Addr} (h1:a≠L) (h2:∀ p∈cs,p.2≠a):unfr σ' L cs a=σ' a:=by
 unfold unfr
 rw [if_neg h1,List.find?_eq_none.mpr fun p hp=>by simpa using h2 p hp]
theorem frOk_off (ok:FrOk σ L cs) {a:Addr} {o:SObj} (h:σ a=some o):a≠L∧∀ p∈cs,p.2≠a :=
 ⟨(fun q=>by rw [q,ok.free] at h;cases h),(fun p hp q=>by rw [←q,(ok.cell p hp).1] at h;cases h)⟩
theorem Step.back (G:Gph σ S) (ok:FrOk σ L cs) (st:Step (fr σ L cs m) σ' S S'):∃ σ2,σ'=fr σ2 L cs m∧FrOk σ2 L cs∧Step σ σ2 S S':=by
 have o1:=G.own ok.free
 have hL:σ' L=fr σ L cs m L:=by
  rw [st.grow.off L _ (fr_self σ L cs m) o1.1 o1.2.1 o1.2.2.1 o1.2.2.2,fr_self]
 have hc:∀ p∈cs,σ' p.2=fr σ L cs m p.2:=fun p hp=>by
  have o2:=G.own (ok.cell p hp).1
  have e:=fr_cell (m:=m) ok (lookup_of_mem ok.names (show (p.1,p.2)∈cs from hp))
  rw [st.grow.off _ _ e o2.1 o2.2.1 o2.2.2.1 o2.2.2.2,e]
 refine ⟨unfr σ' L cs,unfr_eq hL hc,unfr_ok (σ:=σ) (σ':=σ') ok,st.gph.unfr hL hc ok,st.same,⟨fun a o ha h1 h2 h3 h4=>?_,st.grow.x,st.grow.dx,st.grow.d,st.grow.rl,fun r hr=>?_⟩,fun a o ha=>?_⟩
 ·have q:=frOk_off ok ha
  rw [unfr_off q.1 q.2]
  exact st.grow.off a o (fr_some ok ha) h1 h2 h3 h4
 ·rcases st.grow.ns r hr with h | ⟨h1,h2⟩
  ·exact .inl h
  ·exact .inr ⟨(fr_none h1).2.2,(fr_none h2).2.2⟩
 ·have q:=frOk_off ok ha
  rw [unfr_off q.1 q.2]
  exact st.live a o (fr_some ok ha)
theorem abs_setNp (G:Gph σ S) {r:NR} (hr:r∈S.ns) (f:Int→Int):absG (S.setNp r.k (f r.np))=gNp (absG S) r.k f:=by
 unfold absG SS.setNp gNp
 rw [List.map_map,List.map_map]
 refine List.map_congr_left fun q hq=>?_
 simp only [Function.comp]
 by_cases e:q.k=r.k
 ·rw [if_pos e,if_pos e,key_uniq G.keys hq hr e]
 ·rw [if_neg e,if_neg e]
theorem abs_addSu (k y:Int):absG (S.addSu k y)=gSu (absG S) k y:=by
 unfold absG SS.addSu gSu
 rw [List.map_map,List.map_map]
 refine List.map_congr_left fun q hq=>?_
 simp only [Function.comp]
 split <;> rfl
theorem Step.setNp (G:Gph σ S) {r:NR} (hr:r∈S.ns) (v:Int):Step σ (upd σ r.ni (some (nodeO r.dx r.k v r.l))) S (S.setNp r.k v):=by
 refine ⟨G.setNp hr v,⟨rfl,rfl,rfl,rfl,rfl,rfl,rfl⟩,⟨fun a o ha h1 h2 h3 h4=>?_,rfl,rfl,rfl,rfl,fun q hq=>.inl ?_⟩,fun a o ha=>?_⟩
 ·rw [upd_ne _ _ (h4 r hr).1];exact ha
 ·obtain ⟨q0,hq0,rfl⟩:=List.mem_map.mp hq
  refine ⟨q0,hq0,?_⟩
  split <;> exact ⟨rfl,rfl⟩
 ·by_cases e:a=r.ni
  ·rw [e,upd_self];exact ⟨_,rfl⟩
  ·rw [upd_ne _ _ e];exact ⟨o,ha⟩
theorem Step.addSu (G:Gph σ S) {r:NR} (hr:r∈S.ns) (y:Int):Step σ (upd σ r.l (some (.list (intsL (r.su++[y]))))) S (S.addSu r.k y):=by
 refine ⟨G.addSu hr y,⟨rfl,rfl,rfl,rfl,rfl,rfl,rfl⟩,⟨fun a o ha h1 h2 h3 h4=>?_,rfl,rfl,rfl,rfl,fun q hq=>.inl ?_⟩,fun a o ha=>?_⟩
 ·rw [upd_ne _ _ (h4 r hr).2];exact ha
 ·obtain ⟨q0,hq0,rfl⟩:=List.mem_map.mp hq
  refine ⟨q0,hq0,?_⟩
  split <;> exact ⟨rfl,rfl⟩
 ·by_cases e:a=r.l
  ·rw [e,upd_self];exact ⟨_,rfl⟩
  ·rw [upd_ne _ _ e];exact ⟨o,ha⟩
theorem gGet_has {g:AG} {k:Int} (h:gHas g k=true):gGet g k=g:=by unfold gGet;rw [if_pos h]
theorem gGet_new {g:AG} {k:Int} (h:gHas g k=false):gGet g k=g++[⟨k,0,[]⟩]:=by unfold gGet;rw [if_neg (by rw [h];simp)]
structure Bd (g:AG) (b:Nat):Prop where
 len:g.length≤b
 su:∀ r∈g,r.su.length≤b
theorem Bd.nil:Bd [] 0:=⟨Nat.le_refl _,fun _ h=>by cases h⟩
theorem Bd.mono {g:AG} {b b':Nat} (h:Bd g b) (l:b≤b'):Bd g b':=⟨Nat.le_trans h.len l,fun r hr=>Nat.le_trans (h.su r hr) l⟩
theorem Bd.get {g:AG} {b:Nat} (h:Bd g b) (k:Int):Bd (gGet g k) (b+1):=by
 unfold gGet
 split
 ·exact h.mono (Nat.le_succ _)
 ·refine ⟨by simp;exact h.len,fun r hr=>?_⟩
  rcases List.mem_append.mp hr with hr | hr
  ·exact Nat.le_trans (h.su r hr) (Nat.le_succ _)
  ·rw [List.mem_singleton.mp hr];exact Nat.zero_le _
theorem Bd.np {g:AG} {b:Nat} (h:Bd g b) (k:Int) (f:Int→Int):Bd (gNp g k f) b:=by
 refine ⟨by unfold gNp;simpa using h.len,fun r hr=>?_⟩
 obtain ⟨q,hq,rfl⟩:=List.mem_map.mp hr
 split <;> exact h.su q hq
theorem Bd.sucs {g:AG} {b:Nat} (h:Bd g b) (k y:Int):Bd (gSu g k y) (b+1):=by
 refine ⟨by unfold gSu;simpa using Nat.le_succ_of_le h.len,fun r hr=>?_⟩
 obtain ⟨q,hq,rfl⟩:=List.mem_map.mp hr
 split
 ·simpa using h.su q hq
 ·exact Nat.le_succ_of_le (h.su q hq)
theorem Bd.pred {g:AG} {b:Nat} (h:Bd g b) (node p:Int):Bd (gPred node g p) (b+2):=(h.get p).sucs p node
theorem Bd.preds {node:Int}:∀ {ps:List Int} {g:AG} {b:Nat},Bd g b→Bd (ps.foldl (gPred node) g) (b+2 * ps.length)
 | [],_,_,h=>h
 | p :: r,g,b,h=>by
  have:=Bd.preds (node:=node) (ps:=r) (h.pred node p)
  rw [List.foldl_cons]
  refine this.mono ?_
  simp;exact om145
theorem Bd.add {g:AG} {b:Nat} (h:Bd g b) (node:Int) (ps:List Int):Bd (gAdd g node ps) (b+1+2 * ps.length):=Bd.preds ((h.get node).np node _)
end
section
variable {G:GC} {A:Around} {σ:Sig} {n:Nat} {Q:SV→Sig→Prop}
theorem W_getinfo' {S:SS} {k:Int} (R:Rm (n+3) A) (g:Gph σ S) (hz:S.ns.length≤100) (h:∀ r S' σ',r∈S'.ns→r.k=k→absG S'=gGet (absG S) k→Step σ σ' S S'→Q (.ref r.ni) σ'):CallT G.c A (.ref 80) [.ref S.x,.d (.int k)] σ Q:=by
 refine W_getinfo R g hz (fun r hr hk=>h r S σ hr hk ?_ (Step.refl g)) fun hk r σ' e1 e2 e3 n1 n2 g' off=>h r (S.node r) σ' (by unfold SS.node;simp) e1 ?_ ⟨g',⟨rfl,rfl,rfl,rfl,rfl,rfl,rfl⟩,⟨off,rfl,rfl,rfl,rfl,fun q hq=>?_⟩,fun a o ha=>?_⟩
 ·rw [gGet_has (gHas_abs.mpr (List.mem_map.mpr ⟨r,hr,hk⟩))]
 ·rw [gGet_new (Bool.eq_false_iff.mpr fun q=>hk (gHas_abs.mp q))]
  unfold absG SS.node
  simp [e1,e2,e3]
 ·rcases List.mem_append.mp hq with hq | hq
  ·exact .inl ⟨q,hq,rfl,rfl⟩
  ·rw [List.mem_singleton.mp hq];exact .inr ⟨n1,n2⟩
 ·by_cases c1:a=S.dx
  ·exact ⟨_,c1▸g'.hdx⟩
  by_cases c2:a=S.d
  ·exact ⟨_,c2▸g'.hd⟩
  by_cases c3:S.rl=some a
  ·exact ⟨_,g'.hr a c3⟩
  by_cases c4:∃ q∈S.ns,a=q.ni∨a=q.l
  ·obtain ⟨q,hq,e⟩:=c4
   have hq':q∈(S.node r).ns:=List.mem_append_left _ hq
   rcases e with e | e
   ·exact ⟨_,e▸(g'.hn q hq').1⟩
   ·exact ⟨_,e▸(g'.hn q hq').2.2⟩
  ·exact ⟨o,off a o ha c1 c2 (fun b hb q=>c3 (q▸hb)) fun q hq=>⟨fun z=>c4 ⟨q,hq,.inl z⟩,fun z=>c4 ⟨q,hq,.inr z⟩⟩⟩
end
end Mine
end
section
set_option maxHeartbeats 400000
namespace Mine
section
variable (p:Params)
theorem k40_gN:findIn (KP p) (.ref 40) "node"=some (some (.ref 41)):=by rfl
theorem k40_gP:findIn (KP p) (.ref 40) "npredecessors"=some (some (.ref 42)):=by rfl
theorem k40_gS:findIn (KP p) (.ref 40) "successors"=some (some (.ref 43)):=by rfl
theorem k40_cls:isClsIn (KP p) 40=true:=by rfl
theorem k40_sp (a:Addr) (h:a=41∨a=42∨a=43):specialIn (KP p) (.ref a) "__get__"=some (some (.builtin "member_descriptor.__get__")):=by rcases h with rfl | rfl | rfl <;> rfl
theorem k40_tk (a:Addr) (h:a=41∨a=42∨a=43):takesIn (KP p) (.ref a)=some true:=by rcases h with rfl | rfl | rfl <;> rfl
theorem k80_ty:typeIn (KP p) (.ref 80)=some (.type "function"):=by rfl
theorem k80_kp:keepIn (KP p) (.ref 80)=true:=by rfl
end
inductive SK (σ:Sig) (S:SS) (L:Addr) (l:List (Str×SV)) (P:SS→Prop) (σ':Sig):Prop
 | mk (σ2:Sig) (S2:SS) (e:σ'=fr σ2 L [] (mkm l)) (ok:FrOk σ2 L []) (st:Step σ σ2 S S2) (p:P S2):SK σ S L l P σ'
section
variable {G:GC} {A:Around} {σ:Sig} {n:Nat} {Q:SV→Sig→Prop} {S:SS} {r:NR} {expr:Bool}
theorem gph_np (g:Gph σ S) (hr:r∈S.ns) (h:Q (.d (.int r.np)) σ):T1 G.c VRel A (fun v=>getAttr v "npredecessors" expr) (.ref r.ni) σ Q :=
 A_getS (p:=42) (i:=1) (.inl (g.hn r hr).1) (.inl (g.hn r hr).2.1) rfl handed_int h (k40_get _ _) (k40_cls _) (k40_gP _) (k40_sp _ _ (.inr (.inl rfl))) (k40_tk _ _ (.inr (.inl rfl))) (k40_sP _)
theorem gph_su (g:Gph σ S) (hr:r∈S.ns) (h:Q (.ref r.l) σ):T1 G.c VRel A (fun v=>getAttr v "successors" expr) (.ref r.ni) σ Q :=
 A_getS (p:=43) (i:=2) (.inl (g.hn r hr).1) (.inl (g.hn r hr).2.1) rfl handed_ref h (k40_get _ _) (k40_cls _) (k40_gS _) (k40_sp _ _ (.inr (.inr rfl))) (k40_tk _ _ (.inr (.inr rfl))) (k40_sS _)
theorem gph_setnp {L:Addr} {cs:List (Str×Addr)} {m:Str→Option SV} {Q:Sig→Prop} (g:Gph σ S) (hr:r∈S.ns) (ok:FrOk σ L cs) (v:Int) (h:FrOk (upd σ r.ni (some (nodeO r.dx r.k v r.l))) L cs→Step σ (upd σ r.ni (some (nodeO r.dx r.k v r.l))) S (S.setNp r.k v)→Q (fr (upd σ r.ni (some (nodeO r.dx r.k v r.l))) L cs m)) :
  T2 G.c RU A (fun a b=>setAttr a "npredecessors" b) (.ref r.ni) (.d (.int v)) (fr σ L cs m) (fun _ σ'=>Q σ') :=
 A_setS (p:=42) (i:=1) ok (g.hn r hr).1 (g.hn r hr).2.1 (by decide) (fun ok=>h ok (Step.setNp g hr v)) (k40_set _) (k40_over _) (k40_tP _) (k40_ty _ _ (.inr (.inl rfl))) (k40_sP _)
theorem attrs_rl (h:S.rl=none):S.attrs.lookup (Str.ofString "_ready_nodes")=some (.d .none):=by unfold SS.attrs;rw [h];rfl
theorem absG_len {S:SS}:(absG S).length=S.ns.length:=by unfold absG;simp
theorem abs_mem {S:SS} {r:NR} (h:r∈S.ns):(⟨r.k,r.np,r.su⟩:GN)∈absG S:=List.mem_map.mpr ⟨r,h,rfl⟩
theorem peek1_tuple {α:Type} {K:Frag} {S:Setting} {ts:List Value} {k:Value→Sem α} {t:Sem α} (e:t=(newTuple ts >>= k)) (h:ts.length≤1000):peek1 K S t=some (tupObj ts 0,fun D=>peek K S (k (.ref D))):=by
 subst e
 have hz:¬(ts.toArray.size > sizeLine):=by rw [List.size_toArray,sizeLine_eq];exact om96 h
 unfold newTuple newObj
 dsimp only
 rw [if_neg hz]
 rfl
noncomputable def frAd (S:SS) (k:Int) (ps:List Int):List (Str×SV):=[(Str.ofString "self",.ref S.x),(Str.ofString "node",.d (.int k)),(Str.ofString "predecessors",.d (.tuple (ps.map PyData.int)))]
theorem W_add {k:Int} {ps:List Int} {b:Nat} (R:Rm (n+4) A) (g:Gph σ S) (hrl:S.rl=none) (hb:Bd (absG S) b) (hz:b+1+2 * ps.length≤100)
  (h:∀ S' σ',absG S'=gAdd (absG S) k ps→Step σ σ' S S'→Q (.d .none) σ'):CodeT G.c A (.ref 87) (.ref S.x :: .d (.int k) :: intsL ps) σ Q:=by
 refine D_fnV (f:=87) (ps.map PyData.int) (frAd S k ps) (fun _=>[]) rfl ?_ R (fun F vs p=>?_) (fun L ok=>?_) (fun L=>?_) (fun L y hy=>?_) ?_ ?_ rfl rfl rfl
 ·rfl
 ·cases p with
  | cons a p =>
  cases p with
  | cons b2 p =>
   rename_i v u ts
   refine ⟨ts,_,fun D=>[(Str.ofString "self",v),(Str.ofString "node",u),(Str.ofString "predecessors",.ref D)],rds_of_paired (by simpa [Function.comp_def] using p),(peek1_tuple (K:=G.c.K) (S:=⟨G.c.prog,G.c.w.params⟩) ((by cases ts <;> rfl:bindArgs (fnOf (Str.ofString "add") _ _ _ _ _ _ _ _ _ _ _) ⟨v :: u :: ts,[]⟩=(newTuple ts >>= fun t=>pure [(Str.ofString "self",v),(Str.ofString "node",u),(Str.ofString "predecessors",t)]))) ?_),fun D=>rfl,fun F' D l rt=>?_⟩
   ·have:=p.length;simp at this;exact om230 hz this
   exact .cons ⟨rfl,VRel.mono l a⟩ (.cons ⟨rfl,VRel.mono l b2⟩ (.cons ⟨rfl,rt⟩ .nil))
 ·refine t_fit (frAd S k ps) ⟨rfl,rfl,rfl,trivial⟩ ?_
  have gf:=g.fr (m:=mkm (frAd S k ps)) ok
  refine T_cons (T_if (t_isCmp (t_attr (t_loc rfl <| A_get (.inl gf.hx) (.inl gf.hdx) (attrs_rl hrl) handed_none (T_none <| O_isNotNone none_none <| truth_bool ⟨nofun,fun _=>?_⟩) (k137_get _ _) (k137_dict _) (k137_f2 _) rfl))))
  refine T_nil (Nx.next (T_cons (t_as (t_inst (C:=137) (f:=80) (t_loc rfl ⟨_,rfl,isInst_obj (.inl gf.hx) (.inl gf.hdx) rfl,t_a1 (t_loc rfl <| W_getinfo' (R.deeper _) gf (by rw [←absG_len];have:=hb.len;exact om229 hz this) fun r S1 σ1 hr hk hab st=>?_)⟩) (k137_get _ _) (k137_m1 _) (k80_ty _) (k80_kp _)))))
  obtain ⟨σ2,rfl,ok,st⟩:=Step.back g ok st
  refine t_st ?_
  have g1:=st.gph
  have gf:=g1.fr (m:=setm (mkm (frAd S k ps)) (Str.ofString "nodeinfo") (.ref r.ni)) ok
  have hb1:=hb.get k
  rw [←hab] at hb1
  refine Nx.next (T_cons (t_augAttr (t_loc rfl <| gph_np gf hr <| t_callB rfl (by rfl) (by decide) (kept_builtin _) (t_a1 (t_loc rfl <| O_lenT AsTup.d (by simp;exact om151 hz) <| O_iadd <| gph_setnp g1 hr ok _ fun ok st1=>Nx.next ?_)))))
  refine t_fit (frAd S k ps) ⟨rfl,rfl,rfl,trivial⟩ ?_
  have hab1:absG (S1.setNp r.k (r.np+((ps.map PyData.int).map SV.d).length))=gNp (gGet (absG S) k) k (·+ps.length):=by
   rw [abs_setNp g1 hr (fun i=>i+((ps.map PyData.int).map SV.d).length),hab,hk];simp
  have st:=st.trans st1
  clear st1 gf hb1 g1 hab
  generalize S1.setNp r.k (r.np+((ps.map PyData.int).map SV.d).length)=S2 at *
  generalize upd σ2 r.ni _=σ3 at *
  have hb2:Bd (absG S2) (b+1):=by rw [hab1];exact (hb.get k).np k _
  refine T_cons (t_for (t_loc rfl ⟨_,fun i=>SK σ S L (frAd S k ps) fun S4=>absG S4=(ps.take i).foldl (gPred k) (absG S2),it_tup (R.deeper _) AsTup.d ⟨_,_,rfl⟩,⟨σ3,S2,rfl,ok,st,rfl⟩,?_,?_⟩))
  ·rintro i y σ' hy ⟨σ4,S4,rfl,ok,st,hab⟩
   rw [List.map_map,List.getElem?_map] at hy
   obtain ⟨p,hp,rfl⟩:=Option.map_eq_some_iff.mp hy
   have hi:i < ps.length:=(List.getElem?_eq_some_iff.mp hp).1
   have hb4:Bd (absG S4) (b+1+2 * i):=by
    rw [hab]
    refine (Bd.preds hb2).mono ?_
    rw [List.length_take];exact om248 hi
   have gf:=st.gph.fr (m:=setm (mkm (frAd S k ps)) (Str.ofString "pred") (.d (.int p))) ok
   have hx:S.x=S4.x:=st.same.x.symm
   refine t_asN (opF fun P1 i1=>T_cons (t_as (t_inst (C:=137) (f:=80) (t_loc rfl ⟨_,rfl,hx▸isInst_obj (.inl gf.hx) (.inl gf.hdx) rfl,t_a1 (t_loc rfl <| hx▸W_getinfo' (R.deeper _) gf (by rw [←absG_len];have:=hb4.len;exact om284 hz hi this) fun r5 S5 σ5 hr5 hk5 hab5 st5=>?_)⟩) (k137_get _ _) (k137_m1 _) (k80_ty _) (k80_kp _))))
   obtain ⟨σ6,rfl,ok,st5⟩:=Step.back st.gph ok st5
   have g5:=st5.gph
   refine t_st (Nx.next (T_cons (t_ex (t_meth m_append (t_attr (t_loc rfl <| gph_su (g5.fr ok) hr5 ⟨oft_list (AsList.ref (g5.fr ok |>.hn r5 hr5).2.2),t_a1 (t_loc rfl <| o_append ok (g5.hn r5 hr5).2.2 ?_ fun ok=>?_)⟩))))))
   ·have hb5:=(hb4.get p)
    rw [←hab5] at hb5
    have:=hb5.su _ (abs_mem hr5)
    simp at this ⊢;exact om283 hz hi this
   ·refine Nx.next (t_fit (frAd S k ps) ⟨rfl,rfl,rfl,trivial⟩ (T_nil ?_))
    refine i1 _ ⟨_,S5.addSu r5.k k,?_,?_,(st.trans st5).trans (Step.addSu g5 hr5 k),?_⟩
    ·simp [intsL]
    ·simpa [intsL] using ok
    ·rw [abs_addSu,hab5,hk5,foldl_take _ _ _ _ _ hp,←hab];rfl
  ·rintro σ' ⟨σ4,S4,rfl,ok,st,hab⟩
   refine Nx.next (T_nil ⟨_,_,rfl,ok,h S4 σ4 ?_ st⟩)
   rw [hab,List.length_map,List.length_map,List.take_length,hab1];rfl
 ·rfl
 ·simp [frAd] at hy;rcases hy with rfl | rfl | rfl <;> exact .inl rfl
 ·decide
 ·decide
end
end Mine
end
section
set_option maxHeartbeats 400000
namespace Mine
structure Apart (S:SS) (a:Addr):Prop where
 dx:a≠S.dx
 d:a≠S.d
 rl:∀ b,S.rl=some b→a≠b
 ns:∀ r∈S.ns,a≠r.ni∧a≠r.l
theorem Off.at {σ σ':Sig} {S:SS} (h:Off σ σ' S) {a:Addr} {o:SObj} (ha:σ a=some o) (p:Apart S a):σ' a=some o:=h a o ha p.dx p.d p.rl p.ns
theorem Grow.apart {σ σ':Sig} {S S':SS} (h:Grow σ σ' S S') {a:Addr} {o:SObj} (ha:σ a=some o) (p:Apart S a):Apart S' a:=by
 refine ⟨h.dx▸p.dx,h.d▸p.d,fun b hb=>p.rl b (by rw [←h.rl];exact hb),fun r hr=>?_⟩
 rcases h.ns r hr with ⟨q,hq,e1,e2⟩ | ⟨e1,e2⟩
 ·rw [←e1,←e2];exact p.ns q hq
 ·exact ⟨(fun z=>by rw [z,e1] at ha;cases ha),(fun z=>by rw [z,e2] at ha;cases ha)⟩
theorem Gph.apartD {σ:Sig} {S:SS} (G:Gph σ S) {a:Addr} (h:σ a=none):Apart S a:=let o:=G.own h;⟨o.1,o.2.1,o.2.2.1,o.2.2.2⟩
section
variable (p:Params)
theorem k137_add:findIn (KP p) (.ref 137) "add"=some (some (.ref 87)):=by rfl
theorem k87_fn:isFn (KP p) (.ref 87)=true:=by rfl
theorem k87_in:fnIn (KP p) 87=true:=by rfl
theorem k87_get:specialIn (KP p) (.ref 87) "__get__"=some (some (.builtin "function.__get__")):=by rfl
theorem k87_tk:takesIn (KP p) (.ref 87)=some false:=by rfl
theorem k87_ty:typeIn (KP p) (.ref 87)=some (.type "function"):=by rfl
theorem k87_kp:keepIn (KP p) (.ref 87)=true:=by rfl
end
theorem CodeT.self {c:Cfg} {A:Around} {σ:Sig} {f:Value} {a b:Addr} {xs:List SV} {Q:SV→Sig→Prop} (e:a=b) (h:CodeT c A f (.ref a :: xs) σ Q):CodeT c A f (.ref b :: xs) σ Q:=e▸h
theorem CallT.self {c:Cfg} {A:Around} {σ:Sig} {f:Value} {a b:Addr} {xs:List SV} {Q:SV→Sig→Prop} (e:a=b) (h:CallT c A f (.ref a :: xs) σ Q):CallT c A f (.ref b :: xs) σ Q:=e▸h
noncomputable def graphOf (kvs:List (Int×List Int)) (g:AG):AG:=kvs.foldl (fun g p=>gAdd g p.1 p.2) g
noncomputable abbrev pL (ps:List Int):PyData:=.list (ps.map PyData.int)
noncomputable def bdOf (kvs:List (Int×List Int)):Nat:=(kvs.map fun p=>1+2 * p.2.length).sum
theorem Bd.graph:∀ {kvs:List (Int×List Int)} {g:AG} {b:Nat},Bd g b→Bd (graphOf kvs g) (b+bdOf kvs)
 | [],_,_,h=>h
 | p :: r,g,b,h=>by
  have:=Bd.graph (kvs:=r) (h.add p.1 p.2)
  refine this.mono ?_
  unfold bdOf
  simp;exact om228
theorem bdOf_take (kvs:List (Int×List Int)) (i:Nat) {p:Int×List Int} (h:kvs[i]?=some p):bdOf (kvs.take i)+(1+2 * p.2.length)≤bdOf kvs:=by
 induction kvs generalizing i with
 | nil=>simp at h
 | cons q r ih =>
  cases i with
  | zero =>
   simp at h;subst h
   unfold bdOf
   simp
  | succ i =>
   have:=ih i (by simpa using h)
   unfold bdOf at *
   simp at *
   exact om286 this
noncomputable def frIn (x gd:Addr):List (Str×SV):=[(Str.ofString "self",.ref x),(Str.ofString "graph",.ref gd)]
section
variable {G:GC} {A:Around} {σ:Sig} {n:Nat} {Q:SV→Sig→Prop}
theorem W_init1 {x dx gd:Addr} {kvs:List (Int×List Int)} (R:Rm (n+5) A) (hx:σ x=some (.obj (instO 137 dx))) (hdx:σ dx=some (.attrs [])) (hgd:σ gd=some (.ro (.dictI (kvs.map fun p=>(p.1,SV.d (pL p.2))))))
  (hz:bdOf kvs≤100) (hl:∀ p∈kvs,p.2.length≤100)
  (h:∀ S' d σ' σ1,σ d=none→absG S'=graphOf kvs []→Gph σ1 (newS x dx d)→(∀ a o,σ a=some o→a≠dx→σ1 a=some o∧Apart (newS x dx d) a)→Step σ1 σ' (newS x dx d) S'→Q (.d .none) σ'):CodeT G.c A (.ref 73) [.ref x,.ref gd] σ Q:=by
 refine D_fnC (f:=73) [(Str.ofString "self",.ref x),(Str.ofString "graph",.ref gd)] (fun _=>[]) rfl ?_ R (fun F vs p=>?_) (fun L ok=>?_) (fun L=>?_) (fun L y hy=>?_) ?_ ?_ [Str.ofString "self",Str.ofString "graph"] rfl ?_ rfl rfl rfl
 ·rfl
 ·exact pr2 (fun v a w b=>⟨_,fun S=>rfl,.cons ⟨rfl,a⟩ (.cons ⟨rfl,b⟩ .nil)⟩) p
 ·have hne:dx≠x:=fun q=>by rw [q,hx] at hdx;cases hdx
  have hgx:gd≠dx:=fun q=>by rw [q,hdx] at hgd;cases hgd
  refine T_cons (t_asAttr (t_dict0I ok fun d N=>t_loc rfl <| A_set N.ok (by rw [upd_ne _ _ (lay_new N.whole hx)];exact hx) (by rw [upd_ne _ _ (lay_new N.whole hdx)];exact hdx) (by decide) (fun ok=>?_) (k137_set _) (k137_over _) (k137_t1 _) (k137_dict _)))
  have hd:=N.free
  have nd:=lay_new N.whole hdx
  have nx:=lay_new N.whole hx
  have ng:=lay_new N.whole hgd
  refine T_cons (t_asAttr (T_none <| t_loc rfl <| A_set ok (by rw [upd_ne _ _ (Ne.symm hne),upd_ne _ _ nx];exact hx) (upd_self ..) (len900 (k:=1) (by decide)) (fun ok=>?_) (k137_set _) (k137_over _) (k137_t2 _) (k137_dict _)))
  rw [upd_upd] at ok ⊢
  refine T_cons (t_asAttr (T_int <| t_loc rfl <| A_set ok (by rw [upd_ne _ _ (Ne.symm hne),upd_ne _ _ nx];exact hx) (upd_self ..) (len900 (k:=2) (by decide)) (fun ok=>?_) (k137_set _) (k137_over _) (k137_t3 _) (k137_dict _)))
  rw [upd_upd] at ok ⊢
  refine T_cons (t_asAttr (T_int <| t_loc rfl <| A_set ok (by rw [upd_ne _ _ (Ne.symm hne),upd_ne _ _ nx];exact hx) (upd_self ..) (len900 (k:=3) (by decide)) (fun ok=>?_) (k137_set _) (k137_over _) (k137_t4 _) (k137_dict _)))
  rw [upd_upd] at ok ⊢
  have G1:Gph (upd (upd σ d (some (.dictI []))) dx (some (.attrs (newS x dx d).attrs))) (newS x dx d):=by
   refine ⟨?_,upd_self ..,?_,nofun,nofun,.nil,.nil,nofun⟩
   ·show upd _ _ _ x=_
    rw [upd_ne _ _ (Ne.symm hne),upd_ne _ _ nx];exact hx
   ·show upd _ _ _ d=_
    rw [upd_ne _ _ (Ne.symm nd),upd_self];rfl
  have K1:∀ a o,σ a=some o→a≠dx→upd (upd σ d (some (.dictI []))) dx (some (.attrs (newS x dx d).attrs)) a=some o∧Apart (newS x dx d) a:=fun a o ha hn=>by
   have hnd:a≠d:=fun q=>by rw [q,hd] at ha;cases ha
   refine ⟨?_,hn,hnd,nofun,nofun⟩
   rw [upd_ne _ _ hn,upd_ne _ _ hnd];exact ha
  replace h:=fun S' σ' σ1=>h S' d σ' σ1 hd
  change FrOk (upd (upd σ d (some (.dictI []))) dx (some (.attrs (newS x dx d).attrs))) L [] at ok
  show Nx _ _ _ _ _ _ (fr (upd (upd σ d (some (.dictI []))) dx (some (.attrs (newS x dx d).attrs))) L [] _)
  generalize upd (upd σ d (some (.dictI []))) dx (some (.attrs (newS x dx d).attrs))=σ1 at ok G1 K1 ⊢
  have hg1:=(K1 gd _ hgd hgx)
  refine Nx.next (T_cons (T_if (t_isCmp (t_loc rfl <| T_none <| O_isNotNone none_ref <| truth_bool ⟨fun _=>?_,nofun⟩))))
  have hgr:Rd (fr σ1 L [] (mkm (frIn x gd))) gd (.dictI (kvs.map fun p=>(p.1,SV.d (pL p.2)))):=.inr (fr_some ok hg1.1)
  have hl0:kvs.length≤100:=by
   refine Nat.le_trans ?_ hz
   unfold bdOf
   clear h hz hl hgd hg1 hgr
   induction kvs with
   | nil=>simp
   | cons p r ih=>simp at *;exact om245 ih
  refine T_cons (t_for (t_meth m_items (t_loc rfl ⟨oft_dict (DictR.I hgr),t_a0 (C_items (DictR.I hgr) ⟨_,fun i=>SK σ1 (newS x dx d) L (frIn x gd) fun S2=>absG S2=graphOf (kvs.take i) [],it_items (kvs:=kvs.map fun p=>(p.1,pL p.2)) (R.deeper _) (by rw [List.map_map];exact DictR.I hgr) (by rw [fr_some ok hg1.1];rfl),⟨σ1,newS x dx d,rfl,ok,Step.refl G1,rfl⟩,?_,?_⟩)⟩)))
  ·rintro i y σ' hy ⟨σ2,S2,rfl,ok,st,hab⟩
   rw [List.map_map,List.getElem?_map] at hy
   obtain ⟨p,hp,rfl⟩:=Option.map_eq_some_iff.mp hy
   refine T_assTup (R.deeper _) ⟨_,rfl,rfl⟩ (t_asN (t_asN (opF fun P1 i1=>?_))) rfl rfl rfl
   have G2:=st.gph
   have gf:=G2.fr (m:=setm (setm (mkm (frIn x gd)) (Str.ofString "node") (.d (.int p.1))) (Str.ofString "predecessors") (.d (pL p.2))) ok
   have hx2:S2.x=x:=st.same.x
   have gfx:=gf.hx
   rw [hx2] at gfx
   have hb:Bd (absG S2) (bdOf (kvs.take i)):=by
    rw [hab];have:=Bd.graph (kvs:=kvs.take i) Bd.nil;simpa using this
   have hbt:=bdOf_take kvs i hp
   refine T_cons (t_ex (t_instS (C:=137) (f:=87) (t_loc rfl ⟨x,rfl,isInst2_obj (.inl gfx) (.inl gf.hdx) rfl,fun q=>TA_cons (T_spl_cons (t_loc rfl <| T_spl_star (t_loc rfl ⟨_,.inl .d,by have:=hl p (List.mem_of_getElem? hp);simp;exact om93 this,T_spl_nil ?_⟩)) rfl) rfl⟩) (k137_get _ _) (k137_dict _) (k137_add _) (k87_fn _) (k87_in _) (k87_get _) (k87_tk _) (by decide)))
   rw [show (p.2.map PyData.int).map SV.d++[]=intsL p.2 by simp]
   refine CodeT.self hx2 <| W_add (n:=n) (R.deeper _) gf (by rw [st.same.rl];rfl) hb (om275 hz hbt) fun S3 σ3 hab3 st3=>?_
   obtain ⟨σ4,rfl,ok,st3⟩:=Step.back G2 ok st3
   refine Nx.next (t_fit (frIn x gd) ⟨rfl,rfl,trivial⟩ (T_nil (i1 _ ⟨σ4,S3,rfl,ok,st.trans st3,?_⟩)))
   rw [hab3,hab]
   unfold graphOf
   rw [foldl_take _ _ _ _ _ hp]
  ·rintro σ' ⟨σ2,S2,rfl,ok,st,hab⟩
   rw [List.length_map,List.length_map,List.take_length] at hab
   exact Nx.next (T_nil (Nx.next (T_nil ⟨_,_,rfl,ok,h S2 σ2 σ1 hab G1 K1 st⟩)))
 ·rfl
 ·simp at hy;rcases hy with rfl | rfl <;> exact .inl rfl
 ·decide
 ·decide
 ·decide
end
end Mine
end
section
set_option maxHeartbeats 400000
namespace Mine
structure NewS (S:SS):Prop where
 rl:S.rl=none
 rd:S.rd=[]
 po:S.po=0
 nf:S.nf=0
noncomputable def Fresh (σ σ':Sig) (S:SS):Prop:=∀ a o,σ a=some o→σ' a=some o∧Apart S a∧a≠S.x
section
variable {G:GC} {A:Around} {σ:Sig} {n:Nat} {Q:SV→Sig→Prop}
theorem W_sorter0 (R:Rm (n+2) A) (h:∀ S σ',NewS S→absG S=[]→Gph σ' S→Fresh σ σ' S→Q (.ref S.x) σ'):CallT G.c A (.ref 137) [] σ Q:=by
 refine C_make (n:=n+1) R (k137_make _) (k137_init _) (k137_initT _) (fun dx=>.obj (instO 137 dx)) (fun _=>.inl rfl) fun A' x dx R' hx hdx hne=>?_
 refine W_init0 R' (upd_self ..) (by rw [upd_ne _ _ (Ne.symm hne)];exact upd_self ..) fun d σ' hd g k=>⟨rfl,?_⟩
 refine h (newS x dx d) σ' ⟨rfl,rfl,rfl,rfl⟩ rfl g fun a o ha=>?_
 have n1:a≠x:=fun q=>by rw [q,hx] at ha;cases ha
 have n2:a≠dx:=fun q=>by rw [q,hdx] at ha;cases ha
 have ha':upd (upd σ dx (some (.attrs []))) x (some (.obj (instO 137 dx))) a=some o:=by rw [upd_ne _ _ n1,upd_ne _ _ n2];exact ha
 have n3:a≠d:=fun q=>by rw [q,hd] at ha';cases ha'
 exact ⟨k a o ha' n2,⟨n2,n3,nofun,nofun⟩,n1⟩
theorem W_sorter1 {gd:Addr} {kvs:List (Int×List Int)} (R:Rm (n+6) A) (hgd:σ gd=some (.ro (.dictI (kvs.map fun p=>(p.1,SV.d (pL p.2))))))
  (hz:bdOf kvs≤100) (hl:∀ p∈kvs,p.2.length≤100) (h:∀ S σ',NewS S→absG S=graphOf kvs []→Gph σ' S→Fresh σ σ' S→Q (.ref S.x) σ'):CallT G.c A (.ref 137) [.ref gd] σ Q:=by
 refine C_make (n:=n+5) R (k137_make _) (k137_init _) (k137_initT _) (fun dx=>.obj (instO 137 dx)) (fun _=>.inl rfl) fun A' x dx R' hx hdx hne=>?_
 have g1:gd≠x:=fun q=>by rw [q,hx] at hgd;cases hgd
 have g2:gd≠dx:=fun q=>by rw [q,hdx] at hgd;cases hgd
 refine W_init1 R' (upd_self ..) (by rw [upd_ne _ _ (Ne.symm hne)];exact upd_self ..) (by rw [upd_ne _ _ g1,upd_ne _ _ g2];exact hgd) hz hl fun S' d σ' σ1 hd hab G1 K1 st=>⟨rfl,?_⟩
 have sm:=st.same
 rw [←show S'.x=x from sm.x]
 refine h S' σ' ⟨sm.rl,sm.rd,sm.po,sm.nf⟩ hab st.gph fun a o ha=>?_
 have n1:a≠x:=fun q=>by rw [q,hx] at ha;cases ha
 have n2:a≠dx:=fun q=>by rw [q,hdx] at ha;cases ha
 have ha':upd (upd σ dx (some (.attrs []))) x (some (.obj (instO 137 dx))) a=some o:=by rw [upd_ne _ _ n1,upd_ne _ _ n2];exact ha
 obtain ⟨k1,k2⟩:=K1 a o ha' n2
 exact ⟨st.grow.off.at k1 k2,st.grow.apart k1 k2,by rw [show S'.x=x from sm.x];exact n1⟩
end
structure GphR (σ:Sig) (S:SS):Prop where
 hx:σ S.x=some (.obj (instO 137 S.dx))
 hdx:σ S.dx=some (.attrs S.attrs)
 hd:σ S.d=some (.ro (.dictI S.kv))
 hr:∀ a,S.rl=some a→σ a=some (.list (intsL S.rd))
 hn:∀ r∈S.ns,σ r.ni=some (nodeO r.dx r.k r.np r.l)∧σ r.dx=some (.attrs [])∧σ r.l=some (.ro (.list (intsL r.su)))
 keys:(S.ns.map (·.k)).Nodup
noncomputable def lockS (σ:Sig) (S:SS):Sig:=fun a=>if a=S.d∨a∈S.ns.map (·.l) then (σ a).map .ro else σ a
section
variable {σ σ':Sig} {S S':SS} {L:Addr} {cs:List (Str×Addr)} {m:Str→Option SV} {c:Cfg} {A:Around} {α β:Type} {Rv:FM→β→α→Prop} {t:Sem α} {P:β→Sig→Prop}
theorem lockS_off {a:Addr} (h:Apart S a):lockS σ S a=σ a:=by
 unfold lockS
 rw [if_neg]
 rintro (q | q)
 ·exact h.d q
 ·obtain ⟨r,hr,e⟩:=List.mem_map.mp q
  exact (h.ns r hr).2 e.symm
theorem lockS_none {a:Addr} (h:σ a=none):lockS σ S a=none:=by
 unfold lockS
 split
 ·rw [h];rfl
 ·exact h
theorem lockS_ok (ok:FrOk σ L cs):FrOk (lockS σ S) L cs:=⟨lockS_none ok.free,fun p hp=>⟨lockS_none (ok.cell p hp).1,(ok.cell p hp).2⟩,ok.names,ok.apart⟩
theorem Gph.lock (G:Gph σ S):GphR (lockS σ S) S:=by
 have nd:∀ {a:Addr} {o:SObj},σ a=some o→(∀ kv,o≠.dictI kv)→(∀ xs,o≠.list xs)→lockS σ S a=some o:=fun {a o} ha h1 h2=>by
  unfold lockS
  rw [if_neg]
  ·exact ha
  ·rintro (q | q)
   ·rw [q,G.hd] at ha;exact h1 _ (Option.some.inj ha).symm
   ·obtain ⟨r,hr,e⟩:=List.mem_map.mp q
    rw [←e,(G.hn r hr).2.2] at ha;exact h2 _ (Option.some.inj ha).symm
 refine ⟨nd G.hx (by intro _ h;cases h) (by intro _ h;cases h),nd G.hdx (by intro _ h;cases h) (by intro _ h;cases h),?_,fun a ha=>?_,fun r hr=>⟨nd (G.hn r hr).1 (by intro _ h;cases h) (by intro _ h;cases h),nd (G.hn r hr).2.1 (by intro _ h;cases h) (by intro _ h;cases h),?_⟩,G.keys⟩
 ·unfold lockS;rw [if_pos (.inl rfl),G.hd];rfl
 ·unfold lockS
  rw [if_neg,G.hr a ha]
  rintro (q | q)
  ·have:=G.hr a ha;rw [q,G.hd] at this;cases this
  ·exact G.apart a ha q
 ·unfold lockS;rw [if_pos (.inr (List.mem_map.mpr ⟨r,hr,rfl⟩)),(G.hn r hr).2.2];rfl
theorem t_lock (G:Gph σ S) (ok:FrOk σ L cs) (T:FrOk (lockS σ S) L cs→TG c Rv A t (fr (lockS σ S) L cs m) P):TG c Rv A t (fr σ L cs m) P:=by
 refine TG.relock (σ':=fr (lockS σ S) L cs m) (fun a=>?_) (T (lockS_ok ok))
 unfold fr
 by_cases h1:a=L
 ·rw [if_pos h1,if_pos h1];exact .inl rfl
 ·rw [if_neg h1,if_neg h1]
  cases cs.find? (fun p=>p.2 == a) with
  | some p=>exact .inl rfl
  | none =>
   dsimp only
   unfold lockS
   split
   ·rename_i q
    rcases q with q | q
    ·rw [q,G.hd];exact .inr ⟨_,rfl,rfl,rfl⟩
    ·obtain ⟨r,hr,e⟩:=List.mem_map.mp q
     rw [←e,(G.hn r hr).2.2];exact .inr ⟨_,rfl,rfl,rfl⟩
   ·exact .inl rfl
structure ApartR (S:SS) (a:Addr):Prop where
 dx:a≠S.dx
 rl:S.rl≠some a
 ns:∀ r∈S.ns,a≠r.ni
theorem Apart.R {a:Addr} (h:Apart S a):ApartR S a:=⟨h.dx,fun q=>h.rl a q rfl,fun r hr=>(h.ns r hr).1⟩
noncomputable def skel (r:NR):Int×Addr×Addr×Addr×List Int:=(r.k,r.ni,r.dx,r.l,r.su)
structure StepR (σ σ':Sig) (S S':SS):Prop where
 gph:GphR σ' S'
 x:S'.x=S.x
 dx:S'.dx=S.dx
 d:S'.d=S.d
 sk:S'.ns.map skel=S.ns.map skel
 off:∀ a o,σ a=some o→ApartR S a→σ' a=some o
 live:Live σ σ'
 rl:∀ b,S'.rl=some b→S.rl=some b∨σ b=none
theorem StepR.refl (G:GphR σ S):StepR σ σ S S:=⟨G,rfl,rfl,rfl,rfl,fun _ _ h _=>h,.refl σ,fun _ h=>.inl h⟩
theorem sk_ni (h:S'.ns.map skel=S.ns.map skel) {r:NR} (hr:r∈S'.ns):∃ q∈S.ns,skel q=skel r:=by
 have:skel r∈S.ns.map skel:=h▸List.mem_map.mpr ⟨r,hr,rfl⟩
 exact List.mem_map.mp this
theorem StepR.apart (h:StepR σ σ' S S') {a:Addr} {o:SObj} (ha:σ a=some o) (p:ApartR S a):ApartR S' a:=by
 refine ⟨h.dx▸p.dx,fun q=>?_,fun r hr=>?_⟩
 ·rcases h.rl a q with e | e
  ·exact p.rl e
  ·rw [e] at ha;cases ha
 ·obtain ⟨q,hq,e⟩:=sk_ni h.sk hr
  have e:q.ni=r.ni:=congrArg (·.2.1) e
  rw [←e];exact p.ns q hq
theorem StepR.trans {σ1:Sig} {S1:SS} (a:StepR σ σ1 S S1) (b:StepR σ1 σ' S1 S'):StepR σ σ' S S' :=
 ⟨b.gph,b.x.trans a.x,b.dx.trans a.dx,b.d.trans a.d,b.sk.trans a.sk,fun y o hy p=>b.off y o (a.off y o hy p) (a.apart hy p),a.live.trans b.live,fun c hc=>by
  rcases b.rl c hc with e | e
  ·exact a.rl c e
  ·refine .inr ?_
   cases z:σ c with
   | none=>rfl
   | some o=>obtain ⟨o',z'⟩:=a.live c o z;rw [e] at z';cases z'⟩
theorem GphR.own (G:GphR σ S) {a:Addr} (h:σ a=none):ApartR S a:=by
 refine ⟨fun q=>?_,fun q=>?_,fun r hr q=>?_⟩
 ·rw [q,G.hdx] at h;cases h
 ·rw [G.hr a q] at h;cases h
 ·rw [q,(G.hn r hr).1] at h;cases h
theorem GphR.fr (G:GphR σ S) (ok:FrOk σ L cs):GphR (fr σ L cs m) S where
 hx:=fr_some ok G.hx
 hdx:=fr_some ok G.hdx
 hd:=fr_some ok G.hd
 hr:=fun a ha=>fr_some ok (G.hr a ha)
 hn:=fun r hr=>⟨fr_some ok (G.hn r hr).1,fr_some ok (G.hn r hr).2.1,fr_some ok (G.hn r hr).2.2⟩
 keys:=G.keys
theorem GphR.unfr {σ':Sig} (G:GphR σ' S) (h1:σ' L=Mine.fr σ L cs m L) (h2:∀ p∈cs,σ' p.2=Mine.fr σ L cs m p.2) (ok:FrOk σ L cs):GphR (unfr σ' L cs) S where
 hx:=unfr_keep h1 h2 ok G.hx (by intro _ h;cases h) (by intro _ h;cases h)
 hdx:=unfr_keep h1 h2 ok G.hdx (by intro _ h;cases h) (by intro _ h;cases h)
 hd:=unfr_keep h1 h2 ok G.hd (by intro _ h;cases h) (by intro _ h;cases h)
 hr:=fun a ha=>unfr_keep h1 h2 ok (G.hr a ha) (by intro _ h;cases h) (by intro _ h;cases h)
 hn:=fun r hr=>⟨unfr_keep h1 h2 ok (G.hn r hr).1 (by intro _ h;cases h) (by intro _ h;cases h),unfr_keep h1 h2 ok (G.hn r hr).2.1 (by intro _ h;cases h) (by intro _ h;cases h),unfr_keep h1 h2 ok (G.hn r hr).2.2 (by intro _ h;cases h) (by intro _ h;cases h)⟩
 keys:=G.keys
theorem StepR.back (G:GphR σ S) (ok:FrOk σ L cs) (st:StepR (Mine.fr σ L cs m) σ' S S'):∃ σ2,σ'=Mine.fr σ2 L cs m∧FrOk σ2 L cs∧StepR σ σ2 S S':=by
 have hL:σ' L=Mine.fr σ L cs m L:=by rw [st.off L _ (fr_self σ L cs m) (G.own ok.free),fr_self]
 have hc:∀ p∈cs,σ' p.2=Mine.fr σ L cs m p.2:=fun p hp=>by
  have e:=fr_cell (m:=m) ok (lookup_of_mem ok.names (show (p.1,p.2)∈cs from hp))
  rw [st.off _ _ e (G.own (ok.cell p hp).1),e]
 refine ⟨unfr σ' L cs,unfr_eq hL hc,unfr_ok (σ:=σ) (σ':=σ') ok,st.gph.unfr hL hc ok,st.x,st.dx,st.d,st.sk,fun a o ha p=>?_,fun a o ha=>?_,fun b hb=>?_⟩
 ·have q:=frOk_off ok ha
  rw [unfr_off q.1 q.2]
  exact st.off a o (fr_some ok ha) p
 ·have q:=frOk_off ok ha
  rw [unfr_off q.1 q.2]
  exact st.live a o (fr_some ok ha)
 ·rcases st.rl b hb with e | e
  ·exact .inl e
  ·exact .inr (fr_none e).2.2
theorem setNp_ns (k v:Int):(S.setNp k v).ns.map skel=S.ns.map skel:=by
 unfold SS.setNp
 rw [List.map_map]
 exact List.map_congr_left fun q _=>by simp only [Function.comp];split <;> rfl
theorem kv_sk (h:S'.ns.map skel=S.ns.map skel):S'.kv=S.kv:=by
 have:=congrArg (List.map fun q:Int×Addr×Addr×Addr×List Int=>(q.1,SV.ref q.2.1)) h
 rw [List.map_map,List.map_map] at this
 exact this
theorem keys_sk (h:S'.ns.map skel=S.ns.map skel):S'.ns.map (·.k)=S.ns.map (·.k):=by
 have:=congrArg (List.map fun q:Int×Addr×Addr×Addr×List Int=>q.1) h
 rw [List.map_map,List.map_map] at this
 exact this
theorem StepR.setNp (G:GphR σ S) {r:NR} (hr:r∈S.ns) (v:Int):StepR σ (upd σ r.ni (some (nodeO r.dx r.k v r.l))) S (S.setNp r.k v):=by
 obtain ⟨h1,h2,h3⟩:=G.hn r hr
 have ne:∀ {a:Addr} {o:SObj},σ a=some o→o≠nodeO r.dx r.k r.np r.l→upd σ r.ni (some (nodeO r.dx r.k v r.l)) a=some o:=fun ha hne=>by
  rw [upd_ne _ _ (fun q=>by rw [q,h1] at ha;exact hne (Option.some.inj ha).symm)];exact ha
 refine ⟨⟨ne G.hx (by intro h;cases h),ne G.hdx (by intro h;cases h),?_,fun a ha=>ne (G.hr a ha) (by intro h;cases h),fun q hq=>?_,?_⟩,rfl,rfl,rfl,setNp_ns _ _,fun a o ha p=>?_,fun a o ha=>?_,fun b hb=>.inl hb⟩
 ·rw [kv_sk (setNp_ns _ _)];exact ne G.hd (by intro h;cases h)
 ·obtain ⟨q0,hq0,rfl⟩:=List.mem_map.mp hq
  obtain ⟨a1,a2,a3⟩:=G.hn q0 hq0
  by_cases e:q0.k=r.k
  ·have:=key_uniq G.keys hq0 hr e
   subst this
   rw [if_pos rfl]
   exact ⟨upd_self ..,ne a2 (by intro h;cases h),ne a3 (by intro h;cases h)⟩
  ·rw [if_neg e]
   exact ⟨ne a1 (by intro h;simp at h;exact e h.2.1),ne a2 (by intro h;cases h),ne a3 (by intro h;cases h)⟩
 ·rw [keys_sk (setNp_ns _ _)];exact G.keys
 ·rw [upd_ne _ _ (p.ns r hr)];exact ha
 ·by_cases e:a=r.ni
  ·rw [e,upd_self];exact ⟨_,rfl⟩
  ·rw [upd_ne _ _ e];exact ⟨o,ha⟩
theorem StepR.attrs (G:GphR σ S) (e1:S'.x=S.x) (e2:S'.dx=S.dx) (e3:S'.d=S.d) (e4:S'.rl=S.rl) (e5:S'.rd=S.rd) (e6:S'.ns=S.ns):StepR σ (upd σ S.dx (some (.attrs S'.attrs))) S S':=by
 have ne:∀ {a:Addr} {o:SObj},σ a=some o→o≠.attrs S.attrs→upd σ S.dx (some (.attrs S'.attrs)) a=some o:=fun ha hne=>by
  rw [upd_ne _ _ (fun q=>by rw [q,G.hdx] at ha;exact hne (Option.some.inj ha).symm)];exact ha
 have hkv:S'.kv=S.kv:=by unfold SS.kv;rw [e6]
 refine ⟨⟨?_,?_,?_,fun a ha=>?_,fun q hq=>?_,?_⟩,e1,e2,e3,by rw [e6],fun a o ha p=>?_,fun a o ha=>?_,fun b hb=>.inl (by rw [←e4];exact hb)⟩
 ·rw [e1,e2];exact ne G.hx (by intro h;cases h)
 ·rw [e2,upd_self]
 ·rw [e3,hkv];exact ne G.hd (by intro h;cases h)
 ·rw [e4] at ha;rw [e5];exact ne (G.hr a ha) (by intro h;cases h)
 ·rw [e6] at hq
  obtain ⟨a1,a2,a3⟩:=G.hn q hq
  exact ⟨ne a1 (by intro h;cases h),ne a2 (by intro h;injection h with h;unfold SS.attrs at h;cases h),ne a3 (by intro h;cases h)⟩
 ·rw [e6];exact G.keys
 ·rw [upd_ne _ _ p.dx];exact ha
 ·by_cases e:a=S.dx
  ·rw [e,upd_self];exact ⟨_,rfl⟩
  ·rw [upd_ne _ _ e];exact ⟨o,ha⟩
theorem StepR.ready (G:GphR σ S) {a:Addr} (ha:S.rl=some a) (rd:List Int):StepR σ (upd σ a (some (.list (intsL rd)))) S { S with rd:=rd }:=by
 have h0:=G.hr a ha
 have ne:∀ {b:Addr} {o:SObj},σ b=some o→(∀ xs,o≠.list xs)→upd σ a (some (.list (intsL rd))) b=some o:=fun hb hne=>by
  rw [upd_ne _ _ (fun q=>by rw [q,h0] at hb;exact hne _ (Option.some.inj hb).symm)];exact hb
 refine ⟨⟨ne G.hx (by intro _ h;cases h),ne G.hdx (by intro _ h;cases h),ne G.hd (by intro _ h;cases h),fun b hb=>?_,fun q hq=>?_,G.keys⟩,rfl,rfl,rfl,rfl,fun b o hb p=>?_,fun b o hb=>?_,fun b hb=>.inl hb⟩
 ·have hb:S.rl=some b:=hb
  rw [ha] at hb;cases hb
  exact upd_self ..
 ·obtain ⟨a1,a2,a3⟩:=G.hn q hq
  exact ⟨ne a1 (by intro _ h;cases h),ne a2 (by intro _ h;cases h),ne a3 (by intro _ h;cases h)⟩
 ·rw [upd_ne _ _ (fun q=>p.rl (by rw [q];exact ha))];exact hb
 ·by_cases e:b=a
  ·rw [e,upd_self];exact ⟨_,rfl⟩
  ·rw [upd_ne _ _ e];exact ⟨o,hb⟩
theorem StepR.newReady (G:GphR σ S) {a:Addr} (ha:σ a=none) (rd:List Int) :
  StepR σ (upd (upd σ a (some (.list (intsL rd)))) S.dx (some (.attrs ({ S with rl:=some a,rd:=rd }:SS).attrs))) S { S with rl:=some a,rd:=rd }:=by
 have ne:∀ {b:Addr} {o:SObj},σ b=some o→o≠.attrs S.attrs→upd (upd σ a (some (.list (intsL rd)))) S.dx (some (.attrs ({ S with rl:=some a,rd:=rd }:SS).attrs)) b=some o:=fun hb hne=>by
  rw [upd_ne _ _ (fun q=>by rw [q,G.hdx] at hb;exact hne (Option.some.inj hb).symm),upd_ne _ _ (fun q=>by rw [q,ha] at hb;cases hb)];exact hb
 have had:a≠S.dx:=fun q=>by rw [q,G.hdx] at ha;cases ha
 refine ⟨⟨ne G.hx (by intro h;cases h),upd_self ..,ne G.hd (by intro h;cases h),fun b hb=>?_,fun q hq=>?_,G.keys⟩,rfl,rfl,rfl,rfl,fun b o hb p=>?_,fun b o hb=>?_,fun b hb=>?_⟩
 ·cases hb
  rw [upd_ne _ _ had,upd_self]
 ·obtain ⟨a1,a2,a3⟩:=G.hn q hq
  exact ⟨ne a1 (by intro h;cases h),ne a2 (by intro h;injection h with h;unfold SS.attrs at h;cases h),ne a3 (by intro h;cases h)⟩
 ·rw [upd_ne _ _ p.dx,upd_ne _ _ (fun q=>by rw [q,ha] at hb;cases hb)];exact hb
 ·by_cases e:b=S.dx
  ·rw [e,upd_self];exact ⟨_,rfl⟩
  ·rw [upd_ne _ _ e,upd_ne _ _ (fun q=>by rw [q,ha] at hb;cases hb)];exact ⟨o,hb⟩
 ·cases hb;exact .inr ha
end
end Mine
end
section
set_option maxHeartbeats 400000
namespace Mine
structure SameR (S S':SS):Prop where
 rl:S'.rl=S.rl
 rd:S'.rd=S.rd
 po:S'.po=S.po
 nf:S'.nf=S.nf
theorem SameR.refl (S:SS):SameR S S:=⟨rfl,rfl,rfl,rfl⟩
theorem SameR.trans {S S1 S2:SS} (a:SameR S S1) (b:SameR S1 S2):SameR S S2:=⟨b.rl.trans a.rl,b.rd.trans a.rd,b.po.trans a.po,b.nf.trans a.nf⟩
theorem abs_setNpC {S:SS} (k v:Int):absG (S.setNp k v)=gNp (absG S) k (fun _=>v):=by
 unfold absG SS.setNp gNp
 rw [List.map_map,List.map_map]
 refine List.map_congr_left fun q _=>?_
 simp only [Function.comp]
 split <;> rfl
theorem abs_setNpF {S:SS} (hk:(S.ns.map (·.k)).Nodup) {r:NR} (hr:r∈S.ns) (f:Int→Int):absG (S.setNp r.k (f r.np))=gNp (absG S) r.k f:=by
 unfold absG SS.setNp gNp
 rw [List.map_map,List.map_map]
 refine List.map_congr_left fun q hq=>?_
 simp only [Function.comp]
 by_cases e:q.k=r.k
 ·rw [if_pos e,if_pos e,key_uniq hk hq hr e]
 ·rw [if_neg e,if_neg e]
inductive SJ (σ:Sig) (S:SS) (L:Addr) (l:List (Str×SV)) (P:SS→Prop) (σ':Sig):Prop
 | mk (σ2:Sig) (S2:SS) (e:σ'=fr σ2 L [] (mkm l)) (ok:FrOk σ2 L []) (st:StepR σ σ2 S S2) (p:P S2):SJ σ S L l P σ'
section
variable {G:GC} {A:Around} {σ:Sig} {n:Nat} {Q:SV→Sig→Prop} {S:SS} {r:NR} {expr:Bool} {L:Addr} {cs:List (Str×Addr)} {m:Str→Option SV}
theorem gR_np (g:GphR σ S) (hr:r∈S.ns) (h:Q (.d (.int r.np)) σ):T1 G.c VRel A (fun v=>getAttr v "npredecessors" expr) (.ref r.ni) σ Q :=
 A_getS (p:=42) (i:=1) (.inl (g.hn r hr).1) (.inl (g.hn r hr).2.1) rfl handed_int h (k40_get _ _) (k40_cls _) (k40_gP _) (k40_sp _ _ (.inr (.inl rfl))) (k40_tk _ _ (.inr (.inl rfl))) (k40_sP _)
theorem gR_node (g:GphR σ S) (hr:r∈S.ns) (h:Q (.d (.int r.k)) σ):T1 G.c VRel A (fun v=>getAttr v "node" expr) (.ref r.ni) σ Q :=
 A_getS (p:=41) (i:=0) (.inl (g.hn r hr).1) (.inl (g.hn r hr).2.1) rfl handed_int h (k40_get _ _) (k40_cls _) (k40_gN _) (k40_sp _ _ (.inl rfl)) (k40_tk _ _ (.inl rfl)) (k40_sN _)
theorem gR_su (g:GphR σ S) (hr:r∈S.ns) (h:Q (.ref r.l) σ):T1 G.c VRel A (fun v=>getAttr v "successors" expr) (.ref r.ni) σ Q :=
 A_getS (p:=43) (i:=2) (.inl (g.hn r hr).1) (.inl (g.hn r hr).2.1) rfl handed_ref h (k40_get _ _) (k40_cls _) (k40_gS _) (k40_sp _ _ (.inr (.inr rfl))) (k40_tk _ _ (.inr (.inr rfl))) (k40_sS _)
theorem gR_setnp {Q:Sig→Prop} (g:GphR σ S) (hr:r∈S.ns) (ok:FrOk σ L cs) (v:Int) (h:FrOk (upd σ r.ni (some (nodeO r.dx r.k v r.l))) L cs→StepR σ (upd σ r.ni (some (nodeO r.dx r.k v r.l))) S (S.setNp r.k v)→Q (fr (upd σ r.ni (some (nodeO r.dx r.k v r.l))) L cs m)) :
  T2 G.c RU A (fun a b=>setAttr a "npredecessors" b) (.ref r.ni) (.d (.int v)) (fr σ L cs m) (fun _ σ'=>Q σ') :=
 A_setS (p:=42) (i:=1) ok (g.hn r hr).1 (g.hn r hr).2.1 (by decide) (fun ok=>h ok (StepR.setNp g hr v)) (k40_set _) (k40_over _) (k40_tP _) (k40_ty _ _ (.inr (.inl rfl))) (k40_sP _)
theorem attrs_rl' {a:Addr} (h:S.rl=some a):S.attrs.lookup (Str.ofString "_ready_nodes")=some (.ref a):=by unfold SS.attrs;rw [h];rfl
theorem gR_dict (g:GphR σ S):DictR G.c (intKind G.c.prog G.c.w) σ S.d S.kv:=DictR.I (.inr g.hd)
theorem ints_ds {ns:List Int}:intsL ns=(ns.map PyData.int).map SV.d:=by simp
theorem gR_ready {a:Addr} (g:GphR σ S) (ha:S.rl=some a):AsList σ (.ref a) (intsL S.rd):=AsList.ref (g.hr a ha)
noncomputable def frGr (S:SS):List (Str×SV):=[(Str.ofString "self",.ref S.x),(Str.ofString "result",.d (.tuple (S.rd.map PyData.int))),(Str.ofString "n2i",.ref S.d)]
noncomputable def gOut (g:AG) (ks:List Int):AG:=ks.foldl (fun g k=>gNp g k (fun _=>-1)) g
theorem W_getready {a:Addr} (R:Rm (n+2) A) (g:GphR σ S) (ha:S.rl=some a) (hk:∀ k∈S.rd,k∈S.ns.map (·.k)) (hz:S.rd.length≤1000)
  (h:∀ S' σ',absG S'=gOut (absG S) S.rd→S'.rl=S.rl→S'.rd=[]→S'.po=S.po+S.rd.length→S'.nf=S.nf→StepR σ σ' S S'→Q (.d (.tuple (S.rd.map PyData.int))) σ'):CallT G.c A (.ref 99) [.ref S.x] σ Q:=by
 refine C_fnC (f:=99) [(Str.ofString "self",.ref S.x)] (fun _=>[]) rfl ?_ R (fun F vs p=>?_) (fun L ok=>?_) (fun L=>?_) (fun L y hy=>?_) ?_ ?_ [Str.ofString "self"] rfl ?_ rfl rfl rfl
 ·rfl
 ·exact pr1 (fun v a=>⟨_,fun S=>rfl,.cons ⟨rfl,a⟩ .nil⟩) p
 ·have gf:=g.fr (m:=mkm [(Str.ofString "self",.ref S.x)]) ok
  refine T_cons (T_if (t_isCmp (t_attr (t_loc rfl <| A_get (.inl gf.hx) (.inl gf.hdx) (attrs_rl' ha) handed_ref (T_none <| O_isNone none_ref <| truth_bool ⟨nofun,fun _=>?_⟩) (k137_get _ _) (k137_dict _) (k137_f2 _) rfl))))
  refine T_nil (Nx.next (T_cons (t_as (t_callB rfl (by rfl) (by decide) (kept_type _) (t_a1 (t_attr (t_loc rfl <| A_get (.inl gf.hx) (.inl gf.hdx) (attrs_rl' ha) handed_ref (C_tuple (ds:=S.rd.map PyData.int) (ints_ds▸gR_ready gf ha) (by simpa using hz) <| t_st ?_) (k137_get _ _) (k137_dict _) (k137_f2 _) rfl)))))))
  have gf:=g.fr (m:=setm (mkm [(Str.ofString "self",.ref S.x)]) (Str.ofString "result") (.d (.tuple (S.rd.map PyData.int)))) ok
  refine Nx.next (T_cons (t_as (t_attr (t_loc rfl <| A_get (.inl gf.hx) (.inl gf.hdx) rfl handed_ref (t_st ?_) (k137_get _ _) (k137_dict _) (k137_f1 _) rfl))))
  refine Nx.next (t_fit (frGr S) ⟨rfl,rfl,rfl,trivial⟩ ?_)
  refine T_cons (t_for (t_loc rfl ⟨_,fun i=>SJ σ S L (frGr S) fun S2=>SameR S S2∧absG S2=gOut (absG S) (S.rd.take i),it_tup (R.deeper _) AsTup.d ⟨_,_,rfl⟩,⟨σ,S,rfl,ok,StepR.refl g,.refl S,rfl⟩,?_,?_⟩))
  ·rintro i y σ' hy ⟨σ2,S2,rfl,ok,st,sm,hab⟩
   rw [List.map_map,List.getElem?_map] at hy
   obtain ⟨k,hk',rfl⟩:=Option.map_eq_some_iff.mp hy
   have hkm:=hk k (List.mem_of_getElem? hk')
   rw [←keys_sk st.sk] at hkm
   obtain ⟨r,hr,hrk⟩:=List.mem_map.mp hkm
   have hrk:r.k=k:=hrk
   have g2:=st.gph
   have dr:=gR_dict (G:=G) (g2.fr (m:=setm (mkm (frGr S)) (Str.ofString "node") (.d (.int k))) ok)
   rw [st.d] at dr
   refine t_asN (opF fun P1 i1=>T_cons (t_asAttr (t_globI rfl <| t_sub slot_dict_getitem.lookup (t_loc rfl <| t_loc rfl ⟨typeD dr,G_dict dr KeyR.int (hrk▸kv_get g2.keys hr) <| gR_setnp g2 hr ok _ fun ok st2=>Nx.next ?_⟩))))
   refine t_fit (frGr S) ⟨rfl,rfl,rfl,trivial⟩ (T_nil (i1 _ ⟨_,_,rfl,ok,st.trans st2,sm.trans ⟨rfl,rfl,rfl,rfl⟩,?_⟩))
   rw [abs_setNpC,hab,hrk]
   unfold gOut
   rw [foldl_take _ _ _ _ _ hk']
  ·rintro σ' ⟨σ2,S2,rfl,ok,st,sm,hab⟩
   rw [List.length_map,List.length_map,List.take_length] at hab
   have g2:=st.gph
   have gf:=g2.fr (m:=mkm (frGr S)) ok
   have ha2:=sm.rl.trans ha
   have gfx:=gf.hx
   rw [st.x] at gfx
   refine Nx.next (T_cons (t_ex (t_meth m_clear (t_attr (t_loc rfl <| A_get (.inl gfx) (.inl gf.hdx) (attrs_rl' ha2) handed_ref ⟨oft_list (gR_ready gf ha2),t_a0 (o_clear ok (g2.hr _ ha2) (by rw [List.length_map,sm.rd];exact hz) fun ok=>Nx.next ?_)⟩ (k137_get _ _) (k137_dict _) (k137_f2 _) rfl)))))
   have st3:=StepR.ready g2 ha2 []
   have g3:=st3.gph
   have st:=st.trans st3
   have gf:=g3.fr (m:=mkm (frGr S)) ok
   have gfx:=gf.hx
   rw [st.x] at gfx
   have g3x:=g3.hx
   rw [st.x] at g3x
   refine T_cons (t_augAttr (t_loc rfl <| A_get (.inl gfx) (.inl gf.hdx) rfl handed_int (t_callB rfl (by rfl) (by decide) (kept_builtin _) (t_a1 (t_loc rfl <| O_lenT AsTup.d (by simpa using hz) <| O_iadd <| A_set ok g3x g3.hdx (len900 (k:=4) (by decide)) (fun ok=>Nx.next ?_) (k137_set _) (k137_over _) (k137_t3 _) (k137_dict _)))) (k137_get _ _) (k137_dict _) (k137_f3 _) rfl))
   have st4:=StepR.attrs (S':={ S2 with rd:=[],po:=S2.po+((S.rd.map PyData.int).map SV.d).length }) g3 rfl rfl rfl rfl rfl rfl
   refine T_cons (T_ret (t_loc rfl ⟨_,_,rfl,ok,h { S2 with rd:=[],po:=S2.po+((S.rd.map PyData.int).map SV.d).length } _ ?_ sm.rl rfl ?_ sm.nf (st.trans st4)⟩))
   ·rw [←hab];rfl
   ·show S2.po+_=_
    rw [←sm.po];simp
 ·rfl
 ·simp at hy;rcases hy with rfl;exact .inl rfl
 ·decide
 ·decide
 ·decide
theorem W_isactive {a:Addr} (R:Rm (n+2) A) (g:GphR σ S) (ha:S.rl=some a) (hz:S.rd.length≤1000) (h:Q (.d (.bool (decide (S.nf < S.po) || !S.rd.isEmpty))) σ):CallT G.c A (.ref 106) [.ref S.x] σ Q:=by
 refine C_fnC (f:=106) [(Str.ofString "self",.ref S.x)] (fun _=>[]) rfl ?_ R (fun F vs p=>?_) (fun L ok=>?_) (fun L=>?_) (fun L y hy=>?_) ?_ ?_ [Str.ofString "self"] rfl ?_ rfl rfl rfl
 ·rfl
 ·exact pr1 (fun v a=>⟨_,fun S=>rfl,.cons ⟨rfl,a⟩ .nil⟩) p
 ·have gf:=g.fr (m:=mkm [(Str.ofString "self",.ref S.x)]) ok
  refine T_cons (T_if (t_isCmp (t_attr (t_loc rfl <| A_get (.inl gf.hx) (.inl gf.hdx) (attrs_rl' ha) handed_ref (T_none <| O_isNone none_ref <| truth_bool ⟨nofun,fun _=>?_⟩) (k137_get _ _) (k137_dict _) (k137_f2 _) rfl))))
  refine T_nil (Nx.next (T_cons (T_ret (T_or2 (t_cmp (t_attr (t_loc rfl <| A_get (.inl gf.hx) (.inl gf.hdx) rfl handed_int (t_attr (t_loc rfl <| A_get (.inl gf.hx) (.inl gf.hdx) rfl handed_int (O_ltI <| truth_bool ⟨fun hb=>?_,fun hb=>?_⟩) (k137_get _ _) (k137_dict _) (k137_f3 _) rfl)) (k137_get _ _) (k137_dict _) (k137_f4 _) rfl)))))))
  ·rw [hb] at h ⊢
   exact ⟨_,_,rfl,ok,h⟩
  ·rw [hb] at h
   refine t_callB rfl (by rfl) (by decide) (kept_type _) (t_a1 (t_attr (t_loc rfl <| A_get (.inl gf.hx) (.inl gf.hdx) (attrs_rl' ha) handed_ref (C_bool (gR_ready gf ha) (by simpa using hz) ⟨_,_,rfl,ok,?_⟩) (k137_get _ _) (k137_dict _) (k137_f2 _) rfl)))
   have e:(!(intsL S.rd).isEmpty)=(!S.rd.isEmpty):=by cases S.rd <;> rfl
   rw [e];exact h
 ·rfl
 ·simp at hy;rcases hy with rfl;exact .inl rfl
 ·decide
 ·decide
 ·decide
end
end Mine
end
section
set_option maxHeartbeats 400000
namespace Mine
noncomputable def npOf (g:AG) (k:Int):Int:=((g.find? (fun r=>r.k == k)).map (·.np)).getD 0
noncomputable def suOf (g:AG) (k:Int):List Int:=((g.find? (fun r=>r.k == k)).map (·.su)).getD []
noncomputable def relS (st:AG×List Int) (s:Int):AG×List Int:=(gNp st.1 s (· - 1),if npOf (gNp st.1 s (· - 1)) s=0 then st.2++[s] else st.2)
noncomputable def done1 (st:AG×List Int) (k:Int):AG×List Int:=(suOf st.1 k).foldl relS (gNp st.1 k (fun _=>-2),st.2)
noncomputable def doneS (st:AG×List Int) (ks:List Int):AG×List Int:=ks.foldl done1 st
theorem abs_find {S:SS} (hk:(S.ns.map (·.k)).Nodup) {r:NR} (hr:r∈S.ns):(absG S).find? (fun q=>q.k == r.k)=some ⟨r.k,r.np,r.su⟩:=by
 unfold absG
 generalize S.ns=ns at hk hr
 induction ns with
 | nil=>cases hr
 | cons q t ih =>
  rw [List.map_cons,List.nodup_cons] at hk
  rw [List.map_cons,List.find?_cons]
  rcases List.mem_cons.mp hr with e | hr'
  ·subst e;simp
  ·have:q.k≠r.k:=fun z=>hk.1 (by rw [z];exact List.mem_map.mpr ⟨r,hr',rfl⟩)
   rw [show (q.k == r.k)=false by simpa using this]
   exact ih hk.2 hr'
theorem np_abs {S:SS} (hk:(S.ns.map (·.k)).Nodup) {r:NR} (hr:r∈S.ns):npOf (absG S) r.k=r.np:=by unfold npOf;rw [abs_find hk hr];rfl
theorem su_abs {S:SS} (hk:(S.ns.map (·.k)).Nodup) {r:NR} (hr:r∈S.ns):suOf (absG S) r.k=r.su:=by unfold suOf;rw [abs_find hk hr];rfl
theorem relS_len:∀ (su:List Int) (st:AG×List Int),(su.foldl relS st).2.length≤st.2.length+su.length:=fun l=>by
 induction l with
 | nil=>exact fun _=>Nat.le_refl _
 | cons s r ih =>
  intro st
  have:=ih (relS st s)
  rw [List.foldl_cons]
  have h2:(relS st s).2.length≤st.2.length+1:=by
   unfold relS;dsimp only;split <;> simp
  simp;exact om291 this h2
section
variable {c:Cfg} {A:Around} {σ:Sig} {Q:SV→Sig→Prop}
theorem O_isub {a b:Int} (h:Q (.d (.int (a - b))) σ):T2 c VRel A (inplaceOp .Sub) (.d (.int a)) (.d (.int b)) σ Q:=.mk fun F s E v u H r1 r2=>by
 obtain ⟨t,rfl⟩:=rd_int r1;obtain ⟨t',rfl⟩:=rd_int r2
 exact PyProof.Rows.isub_int (post_int H _ _ _ h)
end
section
variable {G:GC} {A:Around} {σ:Sig} {n:Nat} {Q:SV→Sig→Prop} {S:SS} {r:NR} {expr:Bool} {L:Addr} {cs:List (Str×Addr)} {m:Str→Option SV}
noncomputable def frDo (S:SS) (ks:List Int):List (Str×SV):=[(Str.ofString "self",.ref S.x),(Str.ofString "nodes",.d (.tuple (ks.map PyData.int))),(Str.ofString "n2i",.ref S.d)]
noncomputable def frDi (S:SS) (ks:List Int) (ni:Addr):List (Str×SV):=[(Str.ofString "self",.ref S.x),(Str.ofString "nodes",.d (.tuple (ks.map PyData.int))),(Str.ofString "n2i",.ref S.d),(Str.ofString "nodeinfo",.ref ni)]
structure DoneI (S S2:SS) (st:AG×List Int):Prop where
 rl:S2.rl=S.rl
 po:S2.po=S.po
 ab:absG S2=st.1
 rd:S2.rd=st.2
theorem W_done {a:Addr} {ks:List Int} {b:Nat} (R:Rm (n+2) A) (g:GphR σ S) (ha:S.rl=some a) (hcl:∀ r∈S.ns,∀ s∈r.su,s∈S.ns.map (·.k)) (hb:∀ r∈S.ns,r.su.length≤b)
  (hz:S.rd.length+ks.length * b≤900) (hzk:ks.length≤900)
  (hk:∀ i k,ks[i]?=some k→k∈S.ns.map (·.k)∧npOf (doneS (absG S,S.rd) (ks.take i)).1 k=-1)
  (h:∀ S' σ',absG S'=(doneS (absG S,S.rd) ks).1→S'.rl=S.rl→S'.rd=(doneS (absG S,S.rd) ks).2→S'.po=S.po→S'.nf=S.nf+ks.length→StepR σ σ' S S'→Q (.d .none) σ'):CodeT G.c A (.ref 120) (.ref S.x :: intsL ks) σ Q:=by
 refine D_fnV (f:=120) (ks.map PyData.int) [(Str.ofString "self",.ref S.x),(Str.ofString "nodes",.d (.tuple (ks.map PyData.int)))] (fun _=>[]) rfl ?_ R (fun F vs p=>?_) (fun L ok=>?_) (fun L=>?_) (fun L y hy=>?_) ?_ ?_ rfl rfl rfl
 ·rfl
 ·cases p with
  | cons a p =>
   rename_i v ts
   refine ⟨ts,_,fun D=>[(Str.ofString "self",v),(Str.ofString "nodes",.ref D)],rds_of_paired (by simpa [Function.comp_def] using p),(peek1_tuple (K:=G.c.K) (S:=⟨G.c.prog,G.c.w.params⟩) ((by cases ts <;> rfl:bindArgs (fnOf (Str.ofString "done") _ _ _ _ _ _ _ _ _ _ _) ⟨v :: ts,[]⟩=(newTuple ts >>= fun t=>pure [(Str.ofString "self",v),(Str.ofString "nodes",t)]))) ?_),fun D=>rfl,fun F' D l rt=>?_⟩
   ·have:=p.length;simp at this;exact om225 hzk this
   exact .cons ⟨rfl,VRel.mono l a⟩ (.cons ⟨rfl,rt⟩ .nil)
 ·refine t_fit [(Str.ofString "self",.ref S.x),(Str.ofString "nodes",.d (.tuple (ks.map PyData.int)))] ⟨rfl,rfl,trivial⟩ ?_
  have gf:=g.fr (m:=mkm [(Str.ofString "self",.ref S.x),(Str.ofString "nodes",.d (.tuple (ks.map PyData.int)))]) ok
  refine T_cons (T_if (t_isCmp (t_attr (t_loc rfl <| A_get (.inl gf.hx) (.inl gf.hdx) (attrs_rl' ha) handed_ref (T_none <| O_isNone none_ref <| truth_bool ⟨nofun,fun _=>?_⟩) (k137_get _ _) (k137_dict _) (k137_f2 _) rfl))))
  refine T_nil (Nx.next (T_cons (t_as (t_attr (t_loc rfl <| A_get (.inl gf.hx) (.inl gf.hdx) rfl handed_ref (t_st ?_) (k137_get _ _) (k137_dict _) (k137_f1 _) rfl)))))
  refine Nx.next (t_fit (frDo S ks) ⟨rfl,rfl,rfl,trivial⟩ ?_)
  have hlen:∀ i,i≤ks.length→(∀ k∈ks,(k∈S.ns.map (·.k)))→True:=fun _ _ _=>trivial
  refine T_cons (t_for (t_loc rfl ⟨_,fun i=>SJ σ S L (frDo S ks) fun S2=>DoneI S S2 (doneS (absG S,S.rd) (ks.take i))∧S2.nf=S.nf+i∧S2.rd.length≤S.rd.length+i * b,it_tup (R.deeper _) AsTup.d ⟨_,_,rfl⟩,⟨σ,S,rfl,ok,StepR.refl g,⟨rfl,rfl,rfl,rfl⟩,by simp,by simp⟩,?_,?_⟩))
  ·rintro i y σ' hy Hh
   refine cps fun Z z=>?_
   obtain ⟨σ2,S2,rfl,ok,st,di,hnf,hrd⟩:=Hh
   rw [List.map_map,List.getElem?_map] at hy
   obtain ⟨k,hki,rfl⟩:=Option.map_eq_some_iff.mp hy
   have hi:i < ks.length:=(List.getElem?_eq_some_iff.mp hki).1
   obtain ⟨hkm,hnp⟩:=hk i k hki
   rw [←keys_sk st.sk] at hkm
   obtain ⟨r,hr,hrk⟩:=List.mem_map.mp hkm
   have hrk:r.k=k:=hrk
   have g2:=st.gph
   rw [←di.ab,←hrk,np_abs g2.keys hr] at hnp
   have dr:∀ m,DictR G.c (intKind G.c.prog G.c.w) (fr σ2 L [] m) S.d S2.kv:=fun m=>by
    have:=gR_dict (G:=G) (g2.fr (m:=m) ok)
    rwa [st.d] at this
   refine z ?_;clear z Z
   refine t_asN (opF fun P1 i1=>T_cons (T_if (t_isCmp (T_named (t_meth m_get (t_loc rfl ⟨oft_dict (dr _),t_a1 (t_loc rfl <| D_get1 (dr _) KeyR.int <| t_st ?_)⟩))))))
   rw [←hrk,kv_get g2.keys hr]
   refine T_none (O_isNone none_ref (truth_bool ⟨nofun,fun _=>T_nil (Nx.next ?_)⟩))
   refine T_cons (t_as (t_attr (t_loc rfl <| gR_np (g2.fr ok) hr <| t_st ?_)))
   rw [hnp]
   refine Nx.next (T_cons (T_if (t_isCmp (t_loc rfl <| t_globI rfl <| O_neI <| truth_bool ⟨nofun,fun _=>T_nil (Nx.next ?_)⟩))))
   refine T_cons (t_asAttr (t_globI rfl <| t_loc rfl <| gR_setnp g2 hr ok _ fun ok st2=>Nx.next ?_))
   refine t_fit (frDi S ks r.ni) ⟨rfl,rfl,rfl,rfl,trivial⟩ ?_
   have hr3:(⟨r.k,r.ni,r.dx,r.l,-2,r.su⟩:NR)∈(S2.setNp r.k (-2)).ns:=List.mem_map.mpr ⟨r,hr,by rw [if_pos rfl]⟩
   have st3:=st.trans st2
   have g3:=st3.gph
   have hsu:suOf (absG S2) k=r.su:=by rw [←hrk,su_abs g2.keys hr]
   have hrl2:S2.rl=some a:=di.rl.trans ha
   obtain ⟨r0,hr0,er0⟩:=sk_ni st.sk hr
   have ersu:r0.su=r.su:=congrArg (·.2.2.2.2) er0
   have hclr:∀ s∈r.su,s∈S.ns.map (·.k):=fun s hs=>hcl r0 hr0 s (ersu▸hs)
   have hbr:r.su.length≤b:=ersu▸hb r0 hr0
   have di3:DoneI S (S2.setNp r.k (-2)) (gNp (absG S2) k (fun _=>-2),S2.rd):=⟨di.rl,di.po,by rw [abs_setNpC,hrk],rfl⟩
   have hnf3:(S2.setNp r.k (-2)).nf=S.nf+i:=hnf
   clear st2 g2 dr
   generalize upd σ2 r.ni _=σ3 at *
   generalize S2.setNp r.k (-2)=S3 at *
   have hib:S.rd.length+i * b+b≤900:=by
    have:(i+1) * b≤ks.length * b:=Nat.mul_le_mul_right b hi
    rw [Nat.add_mul] at this;exact om285 hz this
   refine T_cons (t_for (t_attr (t_loc rfl <| gR_su (r:=⟨r.k,r.ni,r.dx,r.l,-2,r.su⟩) (g3.fr ok) hr3 ⟨_,fun j=>SJ σ S L (frDi S ks r.ni) fun S4=>DoneI S S4 ((r.su.take j).foldl relS (gNp (absG S2) k (fun _=>-2),S2.rd))∧S4.nf=S.nf+i,it_list (xs:=intsL r.su) (R.deeper _) (QList.ro (g3.fr ok |>.hn _ hr3).2.2) (.inl ⟨_,_,rfl⟩),⟨σ3,S3,rfl,ok,st3,di3,hnf3⟩,?_,?_⟩)))
   ·rintro j y σ' hy Hh
    refine cps fun Z z=>?_
    obtain ⟨σ4,S4,rfl,ok,st,di4,hnf4⟩:=Hh
    rw [List.getElem?_map] at hy
    obtain ⟨s,hs,rfl⟩:=Option.map_eq_some_iff.mp hy
    have hj:j < r.su.length:=(List.getElem?_eq_some_iff.mp hs).1
    have hsm:=hclr s (List.mem_of_getElem? hs)
    rw [←keys_sk st.sk] at hsm
    obtain ⟨q,hq,hqk⟩:=List.mem_map.mp hsm
    have hqk:q.k=s:=hqk
    have g4:=st.gph
    have dr:∀ m,DictR G.c (intKind G.c.prog G.c.w) (fr σ4 L [] m) S.d S4.kv:=fun m=>by
     have:=gR_dict (G:=G) (g4.fr (m:=m) ok)
     rwa [st.d] at this
    refine z ?_;clear z Z
    refine t_asN (opF fun P2 i2=>T_cons (t_as (t_sub slot_dict_getitem.lookup (t_loc rfl <| t_loc rfl ⟨typeD (dr _),G_dict (dr _) KeyR.int (hqk▸kv_get g4.keys hq) <| t_st ?_⟩))))
    refine Nx.next (T_cons (t_augAttr (t_loc rfl <| gR_np (g4.fr ok) hq <| T_int <| O_isub <| gR_setnp g4 hq ok _ fun ok st5=>Nx.next ?_)))
    have hq5:(⟨q.k,q.ni,q.dx,q.l,q.np - 1,q.su⟩:NR)∈(S4.setNp q.k (q.np - 1)).ns:=List.mem_map.mpr ⟨q,hq,by rw [if_pos rfl]⟩
    have ab5:absG (S4.setNp q.k (q.np - 1))=gNp (absG S4) s (· - 1):=by rw [abs_setNpF g4.keys hq (fun v=>v - 1),hqk]
    have st:=st.trans st5
    have g5:=st.gph
    have hnp5:=np_abs g5.keys hq5
    have hstep:=foldl_take relS (gNp (absG S2) k (fun _=>-2),S2.rd) r.su j s hs
    have hlen5:=relS_len (r.su.take j) (gNp (absG S2) k (fun _=>-2),S2.rd)
    rw [←di4.rd,List.length_take] at hlen5
    generalize (r.su.take j).foldl relS (gNp (absG S2) k (fun _=>-2),S2.rd)=q4 at *
    have e1:q4.1=absG S4:=di4.ab.symm
    have e2:q4.2=S4.rd:=di4.rd.symm
    have hrl5:(S4.setNp q.k (q.np - 1)).rl=some a:=di4.rl.trans ha
    rw [ab5] at hnp5
    have hnp5:npOf (gNp (absG S4) s (· - 1)) s=q.np - 1:=by rw [←hqk] at hnp5 ⊢;exact hnp5
    have hx5:=g5.fr (m:=mkm (frDi S ks r.ni)) ok
    refine T_cons (T_if (t_isCmp (t_attr (t_loc rfl <| gR_np (r:=⟨q.k,q.ni,q.dx,q.l,q.np - 1,q.su⟩) (g5.fr ok) hq5 <| T_int <| O_eqI <| truth_bool ⟨fun hb0=>?_,fun hb0=>?_⟩))))
    ·have h0:q.np - 1=0:=eq_of_beq hb0
     have gf:=g5.fr (m:=setm (setm (mkm (frDi S ks r.ni)) (Str.ofString "successor") (.d (.int s))) (Str.ofString "successor_info") (.ref q.ni)) ok
     have gfx:=gf.hx
     rw [st.x] at gfx
     refine T_cons (t_ex (t_meth m_append (t_attr (t_loc rfl <| A_get (.inl gfx) (.inl gf.hdx) (attrs_rl' hrl5) handed_ref ⟨oft_list (gR_ready gf hrl5),t_a1 (t_loc rfl <| o_append ok (g5.hr _ hrl5) ?_ fun ok=>Nx.next ?_)⟩ (k137_get _ _) (k137_dict _) (k137_f2 _) rfl))))
     ·rw [List.length_map]
      show S4.rd.length≤1000
      dsimp only at hlen5
      exact om331 hrd hbr hib hj hlen5
     ·have st6:=StepR.ready g5 hrl5 ((S4.setNp q.k (q.np - 1)).rd++[s])
      refine T_nil (Nx.next (t_fit (frDi S ks r.ni) ⟨rfl,rfl,rfl,rfl,trivial⟩ (T_nil (i2 _ ⟨_,{ (S4.setNp q.k (q.np - 1)) with rd:=(S4.setNp q.k (q.np - 1)).rd++[s] },?_,?_,st.trans st6,⟨di4.rl,di4.po,?_,?_⟩,hnf4⟩))))
      ·rw [show intsL ((S4.setNp q.k (q.np - 1)).rd++[s])=intsL (S4.setNp q.k (q.np - 1)).rd++[.d (.int s)] by simp [intsL]]
      ·rw [show intsL ((S4.setNp q.k (q.np - 1)).rd++[s])=intsL (S4.setNp q.k (q.np - 1)).rd++[.d (.int s)] by simp [intsL]];exact ok
      ·rw [hstep];unfold relS;rw [e1];exact ab5
      ·rw [hstep];unfold relS;dsimp only;rw [e1,e2,hnp5,if_pos h0];rfl
    ·have h0:¬(q.np - 1=0):=beq_eq_false_iff_ne.mp hb0
     refine T_nil (Nx.next (t_fit (frDi S ks r.ni) ⟨rfl,rfl,rfl,rfl,trivial⟩ (T_nil (i2 _ ⟨_,_,rfl,ok,st,⟨di4.rl,di4.po,?_,?_⟩,hnf4⟩))))
     ·rw [hstep];unfold relS;rw [e1];exact ab5
     ·rw [hstep];unfold relS;dsimp only;rw [e1,e2,hnp5,if_neg h0];rfl
   ·rintro σ' Hh
    refine cps fun Z z=>?_
    obtain ⟨σ4,S4,rfl,ok,st,di4,hnf4⟩:=Hh
    rw [List.length_map,List.take_length] at di4
    have g4:=st.gph
    have gf:=g4.fr (m:=mkm (frDi S ks r.ni)) ok
    have gfx:=gf.hx
    rw [st.x] at gfx
    have g4x:=g4.hx
    rw [st.x] at g4x
    have hlen4:=relS_len r.su (gNp (absG S2) k (fun _=>-2),S2.rd)
    rw [←di4.rd] at hlen4
    have hrk0:doneS (absG S,S.rd) (ks.take (i+1))=r.su.foldl relS (gNp (absG S2) k (fun _=>-2),S2.rd):=by
     unfold doneS
     rw [foldl_take _ _ _ _ _ hki]
     show done1 (doneS (absG S,S.rd) (ks.take i)) k=_
     unfold done1
     rw [←di.ab,←di.rd,hsu]
    refine z ?_;clear z Z
    refine Nx.next (T_cons (t_augAttr (t_loc rfl <| A_get (.inl gfx) (.inl gf.hdx) rfl handed_int (T_int <| O_iadd <| A_set ok g4x g4.hdx (len900 (k:=4) (by decide)) (fun ok=>Nx.next ?_) (k137_set _) (k137_over _) (k137_t4 _) (k137_dict _)) (k137_get _ _) (k137_dict _) (k137_f4 _) rfl)))
    have st7:=StepR.attrs (S':={ S4 with nf:=S4.nf+1 }) g4 rfl rfl rfl rfl rfl rfl
    refine t_fit (frDo S ks) ⟨rfl,rfl,rfl,trivial⟩ (T_nil (i1 _ ⟨_,{ S4 with nf:=S4.nf+1 },rfl,ok,st.trans st7,?_,?_,?_⟩))
    ·rw [hrk0];exact ⟨di4.rl,di4.po,di4.ab,di4.rd⟩
    ·show S4.nf+1=_
     rw [hnf4];push_cast;exact om54
    ·show S4.rd.length≤_
     dsimp only at hlen4
     rw [Nat.add_mul];exact om328 hrd hbr hlen4
  ·rintro σ' Hh
   refine cps fun Z z=>?_
   obtain ⟨σ2,S2,rfl,ok,st,di,hnf,hrd⟩:=Hh
   rw [List.length_map,List.length_map] at hnf
   rw [List.length_map,List.length_map,List.take_length] at di
   refine z ?_;clear z Z
   exact Nx.next (T_nil ⟨_,_,rfl,ok,h S2 σ2 di.ab di.rl di.rd di.po hnf st⟩)
 ·rfl
 ·simp at hy;rcases hy with rfl | rfl <;> exact .inl rfl
 ·decide
 ·decide
end
end Mine
end
section
set_option maxHeartbeats 400000
namespace Mine
noncomputable def unS (g:AG) (seen:Int→Bool):Nat:=((g.filter fun r=>!seen r.k).map fun r=>r.su.length+2).sum
noncomputable def onS (g:AG) (st:List (Int×Nat)):Nat:=(st.map fun p=>(suOf g p.1).length - p.2+1).sum
noncomputable def PD (g:AG) (fin:List Int):Int→List (Int×Nat)→Prop
 | _,[]=>True
 | n,(m,q) :: r=>(∃ q',q=q'+1∧(suOf g m)[q']?=some n∧∀ (j:Nat) x,j < q'→(suOf g m)[j]?=some x→x∈fin)∧PD g fin m r
noncomputable def CL (g:AG) (fin:List Int):List (Int×Nat)→Prop
 | []=>True
 | (n,p) :: r=>(∀ (j:Nat) x,j < p→(suOf g n)[j]?=some x→x∈fin)∧PD g fin n r
noncomputable def Topo (g:AG):List Int→Prop
 | []=>True
 | n :: r=>(∀ x∈suOf g n,x∈r)∧n∉r∧Topo g r
structure DFS (g:AG) (seen:Int→Bool) (fin:List Int) (st:List (Int×Nat)):Prop where
 topo:Topo g fin
 iff:∀ k,seen k=true↔k∈fin∨k∈st.map (·.1)
 nd:(st.map (·.1)).Nodup
 disj:∀ k∈st.map (·.1),k∉fin
 keys:∀ k,seen k=true→gHas g k=true
noncomputable def addSeen (seen:Int→Bool) (k:Int):Int→Bool:=fun k'=>seen k' || decide (k'=k)
section
variable {g:AG} {seen:Int→Bool} {fin:List Int} {st:List (Int×Nat)}
theorem PD.mono {fin':List Int} (h:∀ x∈fin,x∈fin') {st:List (Int×Nat)} {n:Int} (p:PD g fin n st):PD g fin' n st:=by
 induction st generalizing n with
 | nil=>trivial
 | cons a r ih =>
  obtain ⟨m,q⟩:=a
  obtain ⟨⟨q',e,h1,h2⟩,h3⟩:=p
  exact ⟨⟨q',e,h1,fun j x hj hx=>h x (h2 j x hj hx)⟩,ih h3⟩
theorem CL.of_fin {n m:Int} {q:Nat} (h:PD g fin n ((m,q) :: st)) (hn:n∈fin):CL g fin ((m,q) :: st):=by
 obtain ⟨⟨q',rfl,h1,h2⟩,h3⟩:=h
 refine ⟨fun j x hj hx=>?_,h3⟩
 by_cases e:j=q'
 ·subst e;rw [h1] at hx;cases hx;exact hn
 ·exact h2 j x (om175 hj e) hx
theorem CL.item {n x:Int} {p:Nat} (h:CL g fin ((n,p) :: st)) (hx:(suOf g n)[p]?=some x):PD g fin x ((n,p+1) :: st):=⟨⟨p,rfl,hx,h.1⟩,h.2⟩
theorem DFS.push {k:Int} (h:DFS g seen fin st) (hk:seen k=false) (hg:gHas g k=true):DFS g (addSeen seen k) fin ((k,0) :: st):=by
 have hn:k∉fin∧k∉st.map (·.1):=by
  constructor
  ·intro q;have:=(h.iff k).mpr (.inl q);rw [hk] at this;cases this
  ·intro q;have:=(h.iff k).mpr (.inr q);rw [hk] at this;cases this
 refine ⟨h.topo,fun k'=>?_,?_,fun k' hk'=>?_,fun k' hk'=>?_⟩
 ·unfold addSeen
  rw [Bool.or_eq_true,h.iff,List.map_cons,List.mem_cons,decide_eq_true_eq]
  constructor
  ·rintro ((a | a) | a)
   ·exact .inl a
   ·exact .inr (.inr a)
   ·exact .inr (.inl a)
  ·rintro (a | a | a)
   ·exact .inl (.inl a)
   ·exact .inr a
   ·exact .inl (.inr a)
 ·rw [List.map_cons,List.nodup_cons];exact ⟨hn.2,h.nd⟩
 ·rcases List.mem_cons.mp hk' with e | e
  ·rw [e];exact hn.1
  ·exact h.disj k' e
 ·unfold addSeen at hk'
  rw [Bool.or_eq_true,decide_eq_true_eq] at hk'
  rcases hk' with e | e
  ·exact h.keys k' e
  ·rw [e];exact hg
theorem DFS.pop {n:Int} {p:Nat} (h:DFS g seen fin ((n,p) :: st)) (c:CL g fin ((n,p) :: st)) (hx:(suOf g n)[p]?=none):DFS g seen (n :: fin) st∧CL g (n :: fin) st:=by
 have hnd:=h.nd
 rw [List.map_cons,List.nodup_cons] at hnd
 refine ⟨⟨⟨fun x hx'=>?_,h.disj n (by simp),h.topo⟩,fun k=>?_,hnd.2,fun k hk=>?_,h.keys⟩,?_⟩
 ·obtain ⟨j,hj⟩:=List.mem_iff_getElem?.mp hx'
  refine c.1 j x ?_ hj
  have h1:=List.getElem?_eq_none_iff.mp hx
  have h2:=(List.getElem?_eq_some_iff.mp hj).1
  exact om276 h1 h2
 ·rw [h.iff,List.map_cons,List.mem_cons,List.mem_cons]
  constructor
  ·rintro (a | a | a)
   ·exact .inl (.inr a)
   ·exact .inl (.inl a)
   ·exact .inr a
  ·rintro ((a | a) | a)
   ·exact .inr (.inl a)
   ·exact .inl a
   ·exact .inr (.inr a)
 ·intro q
  rcases List.mem_cons.mp q with e | e
  ·rw [e] at hk;exact hnd.1 hk
  ·exact h.disj k (by rw [List.map_cons];exact .tail _ hk) e
 ·cases st with
  | nil=>trivial
  | cons mq r =>
   obtain ⟨m,q⟩:=mq
   exact CL.of_fin (PD.mono (fun x hx=>.tail _ hx) c.2) (.head _)
theorem onS_item {n x:Int} {p:Nat} (hx:(suOf g n)[p]?=some x):onS g ((n,p+1) :: st)+1=onS g ((n,p) :: st):=by
 have:=(List.getElem?_eq_some_iff.mp hx).1
 unfold onS
 simp only [List.map_cons,List.sum_cons]
 exact om246 this
theorem onS_pop {n:Int} {p:Nat}:onS g st+1≤onS g ((n,p) :: st):=by
 unfold onS
 simp only [List.map_cons,List.sum_cons]
 exact om232
theorem unS_add:∀ {g:AG},(g.map (·.k)).Nodup→∀ {r:GN},r∈g→seen r.k=false→unS g (addSeen seen r.k)+(r.su.length+2)=unS g seen
 | q :: t,hk,r,hr,hs=>by
  rw [List.map_cons,List.nodup_cons] at hk
  unfold unS
  have tail_same:q.k=r.k→unS t (addSeen seen r.k)=unS t seen:=fun e=>by
   unfold unS
   congr 2
   refine List.filter_congr fun y hy=>?_
   have:y.k≠r.k:=fun z=>hk.1 (by rw [e,←z];exact List.mem_map.mpr ⟨y,hy,rfl⟩)
   unfold addSeen
   simp [this]
  rcases List.mem_cons.mp hr with e | hr'
  ·subst e
   have:=tail_same rfl
   unfold unS at this
   rw [List.filter_cons_of_neg (by simp [addSeen]),List.filter_cons_of_pos (by simp [hs])]
   rw [List.map_cons,List.sum_cons,this]
   exact om166
  ·have hne:q.k≠r.k:=fun z=>hk.1 (by rw [z];exact List.mem_map.mpr ⟨r,hr',rfl⟩)
   have ih:=unS_add hk.2 hr' hs
   unfold unS at ih
   by_cases hq:seen q.k=true
   ·rw [List.filter_cons_of_neg (by simp [addSeen,hq]),List.filter_cons_of_neg (by simp [hq])]
    exact ih
   ·rw [List.filter_cons_of_pos (by simp [addSeen,hq,hne]),List.filter_cons_of_pos (by simpa using hq)]
    rw [List.map_cons,List.sum_cons,List.map_cons,List.sum_cons]
    exact om287 ih
theorem onS_push {k:Int}:onS g ((k,0) :: st)=(suOf g k).length+1+onS g st:=by
 unfold onS
 simp only [List.map_cons,List.sum_cons]
 exact om143
noncomputable def Pth (g:AG):List Int→Prop
 | a :: b :: r=>b∈suOf g a∧Pth g (b :: r)
 | _=>True
theorem Pth.snoc:∀ {l:List Int} {m n:Int},Pth g (l++[m])→n∈suOf g m→Pth g (l++[m]++[n])
 | [],m,n,_,h=>⟨h,trivial⟩
 | [a],m,n,h1,h=>⟨h1.1,h,trivial⟩
 | a :: b :: r,m,n,h1,h=>⟨h1.1,Pth.snoc (l:=b :: r) h1.2 h⟩
theorem Pth.drop:∀ (k:Nat) {l:List Int},Pth g l→Pth g (l.drop k)
 | 0,_,h=>h
 | k+1,[],h=>trivial
 | k+1,[a],h=>by simp [Pth]
 | k+1,a :: b :: r,h=>Pth.drop k h.2
theorem PD.path:∀ {st:List (Int×Nat)} {n:Int},PD g fin n st→Pth g ((st.map (·.1)).reverse++[n])
 | [],_,_=>trivial
 | (m,q) :: r,n,⟨⟨q',_,h1,_⟩,h3⟩=>by
  rw [List.map_cons,List.reverse_cons]
  exact Pth.snoc (PD.path h3) (List.mem_of_getElem? h1)
noncomputable def stL (st:List (Int×Nat)):List Int:=(st.map (·.1)).reverse
structure IsRing (g:AG) (ring:List Int):Prop where
 ex:∃ n l,ring=(n :: l)++[n]∧(n :: l).Nodup
 path:Pth g ring
theorem PD.ring {n:Int} (h:PD g fin n st) (hd:DFS g seen fin st) (hn:n∈stL st):IsRing g ((stL st).drop ((stL st).idxOf n)++[n]):=by
 have hi:=List.idxOf_lt_length_iff.mpr hn
 have nd:(stL st).Nodup:=by
  unfold stL
  unfold List.Nodup
  rw [List.pairwise_reverse]
  exact hd.nd.imp fun h=>Ne.symm h
 have e:(stL st).drop ((stL st).idxOf n)=n :: (stL st).drop ((stL st).idxOf n+1):=by
  rw [List.drop_eq_getElem_cons hi,List.getElem_idxOf]
 refine ⟨⟨n,(stL st).drop ((stL st).idxOf n+1),by rw [←e],?_⟩,?_⟩
 ·rw [←e]
  exact List.Sublist.nodup (List.drop_sublist _ _) nd
 ·have:Pth g ((stL st++[n]).drop ((stL st).idxOf n)):=Pth.drop ((stL st).idxOf n) (PD.path h)
  rw [List.drop_append_of_le_length (Nat.le_of_lt hi)] at this
  exact this
noncomputable def Acyc (g:AG):Prop:=∃ fin,Topo g fin∧∀ k,gHas g k=true→k∈fin
noncomputable def n2s (sl:List Int):List (Int×SV):=sl.zipIdx.map fun p=>(p.1,.d (.int (p.2:Int)))
theorem n2s_get_aux (k:Int):∀ (sl:List Int) (o:Nat),sget ((sl.zipIdx o).map fun p=>(p.1,SV.d (.int (p.2:Int)))) k=if k∈sl then some (.d (.int ((sl.idxOf k+o:Nat):Int))) else none
 | [],o=>by simp [sget]
 | a :: r,o=>by
  have ih:=n2s_get_aux k r (o+1)
  unfold sget at ih ⊢
  rw [List.zipIdx_cons,List.map_cons,List.find?_cons]
  by_cases h:a=k
  ·subst h;simp
  ·rw [show decide ((a,SV.d (PyData.int (o:Int))).1=k)=false by simpa using h]
   dsimp only
   rw [ih]
   by_cases hm:k∈r
   ·rw [if_pos hm,if_pos (.tail _ hm),List.idxOf_cons,show (a == k)=false by simpa using h,cond_false]
    congr 4
    exact om162
   ·rw [if_neg hm,if_neg (by simp [Ne.symm h,hm])]
theorem n2s_get (sl:List Int) (k:Int):sget (n2s sl) k=if k∈sl then some (.d (.int ((sl.idxOf k:Nat):Int))) else none:=by
 exact n2s_get_aux k sl 0
theorem n2s_len (sl:List Int):(n2s sl).length=sl.length:=by simp [n2s]
theorem n2s_set {sl:List Int} {k:Int} (h:k∉sl):sset (n2s sl) k (.d (.int (sl.length:Int)))=n2s (sl++[k]):=by
 unfold sset
 rw [if_neg]
 ·unfold n2s
  rw [List.zipIdx_append,List.map_append]
  simp
 ·intro q
  obtain ⟨p,hp,e⟩:=List.any_eq_true.mp q
  obtain ⟨z,hz,rfl⟩:=List.mem_map.mp hp
  have e:z.1=k:=of_decide_eq_true e
  have:=List.mem_zipIdx hz
  exact h (e▸by rw [this.2.2];exact List.getElem_mem _)
theorem n2s_del {sl:List Int} {k:Int} (h:k∉sl):sdel (n2s (sl++[k])) k=n2s sl:=by
 unfold sdel n2s
 rw [List.zipIdx_append,List.map_append,List.filter_append]
 rw [List.filter_eq_self.mpr,List.filter_eq_nil_iff.mpr,List.append_nil]
 ·intro p hp
  simp at hp
  simp [hp]
 ·intro p hp
  obtain ⟨z,hz,rfl⟩:=List.mem_map.mp hp
  have:=List.mem_zipIdx hz
  have:z.1≠k:=fun e=>h (e▸by rw [this.2.2];exact List.getElem_mem _)
  simpa using this
end
end Mine
end
section
set_option maxHeartbeats 400000
namespace Mine
noncomputable def itL (its:List Addr):List SV:=its.reverse.map fun it=>SV.o (nextObj it)
noncomputable def Its (σ:Sig) (S:SS):List (Int×Nat)→List Addr→Prop
 | [],[]=>True
 | p :: r,it :: t=>(∃ q∈S.ns,q.k=p.1∧σ it=some (.liter q.l p.2))∧it∉t∧Its σ S r t
 | _,_=>False
theorem Its.mem {σ:Sig} {S:SS} {st:List (Int×Nat)} {its:List Addr} (h:Its σ S st its) (it:Addr) (hm:it∈its):∃ l k,σ it=some (.liter l k):=by
 induction st generalizing its with
 | nil=>cases its with
  | nil=>cases hm
  | cons _ _=>exact h.elim
 | cons p r ih=>cases its with
  | nil=>exact h.elim
  | cons i t =>
   obtain ⟨⟨q,_,_,e⟩,_,h⟩:=h
   rcases List.mem_cons.mp hm with rfl | hm
   ·exact ⟨_,_,e⟩
   ·exact ih h hm
theorem Its.off {σ σ':Sig} {S:SS} {st:List (Int×Nat)} {its:List Addr} (h:Its σ S st its) (k:∀ it∈its,σ' it=σ it):Its σ' S st its:=by
 induction st generalizing its with
 | nil=>cases its with
  | nil=>trivial
  | cons _ _=>exact h.elim
 | cons p r ih=>cases its with
  | nil=>exact h.elim
  | cons i t =>
   obtain ⟨⟨q,h1,h2,e⟩,h3,h⟩:=h
   exact ⟨⟨q,h1,h2,by rw [k i (.head _)];exact e⟩,h3,ih h fun x hx=>k x (.tail _ hx)⟩
theorem ne_of {σ:Sig} {a b:Addr} {o o':SObj} (ha:σ a=some o) (hb:σ b=some o') (h:o≠o'):a≠b:=fun q=>by rw [q,hb] at ha;exact h (Option.some.inj ha).symm
theorem ne_dead {σ:Sig} {a b:Addr} {o:SObj} (ha:σ a=some o) (hb:σ b=none):a≠b:=fun q=>by rw [q,hb] at ha;cases ha
structure FC (σ0 σ:Sig) (S:SS) (sa ia se na:Addr) (st:List (Int×Nat)) (its:List Addr) (seen:Int→Bool) (cnt:Nat):Prop where
 keep:∀ a o,σ0 a=some o→σ a=some o
 hs:σ sa=some (.list (intsL (stL st)))
 hi:σ ia=some (.list (itL its))
 he:σ se=some (.setI seen cnt)
 hn:σ na=some (.dictI (n2s (stL st)))
 ht:Its σ S st its
 d1:σ0 sa=none
 d2:σ0 ia=none
 d3:σ0 se=none
 d4:σ0 na=none
 dt:∀ it∈its,σ0 it=none
 ne:sa≠ia
section
variable {σ0 σ:Sig} {S:SS} {sa ia se na:Addr} {st:List (Int×Nat)} {its:List Addr} {seen:Int→Bool} {cnt:Nat}
structure FCne (sa ia se na:Addr) (its:List Addr):Prop where
 a1:sa≠ia
 a2:sa≠se
 a3:sa≠na
 a4:ia≠se
 a5:ia≠na
 a6:se≠na
 t:∀ it∈its,it≠sa∧it≠ia∧it≠se∧it≠na
theorem FC.nes (h:FC σ0 σ S sa ia se na st its seen cnt):FCne sa ia se na its :=
 ⟨h.ne,ne_of h.hs h.he (by intro q;cases q),ne_of h.hs h.hn (by intro q;cases q),ne_of h.hi h.he (by intro q;cases q),ne_of h.hi h.hn (by intro q;cases q),ne_of h.he h.hn (by intro q;cases q),fun it hm=>by
  obtain ⟨l,k,e⟩:=h.ht.mem it hm
  exact ⟨ne_of e h.hs (by intro q;cases q),ne_of e h.hi (by intro q;cases q),ne_of e h.he (by intro q;cases q),ne_of e h.hn (by intro q;cases q)⟩⟩
theorem FC.item {n:Int} {p:Nat} {it:Addr} {q:NR} (h:FC σ0 σ S sa ia se na ((n,p) :: st) (it :: its) seen cnt) (hq:q∈S.ns) (hqk:q.k=n):FC σ0 (upd σ it (some (.liter q.l (p+1)))) S sa ia se na ((n,p+1) :: st) (it :: its) seen cnt:=by
 have N:=h.nes
 obtain ⟨t1,t2,t3,t4⟩:=N.t it (.head _)
 obtain ⟨⟨_,_,_,_⟩,hn,ht⟩:=h.ht
 refine ⟨fun a o ha=>?_,(upd_ne _ _ (Ne.symm t1)).trans h.hs,(upd_ne _ _ (Ne.symm t2)).trans h.hi,(upd_ne _ _ (Ne.symm t3)).trans h.he,(upd_ne _ _ (Ne.symm t4)).trans h.hn,⟨⟨q,hq,hqk,upd_self ..⟩,hn,ht.off fun x hx=>upd_ne _ _ fun e=>hn (e▸hx)⟩,h.d1,h.d2,h.d3,h.d4,h.dt,h.ne⟩
 rw [upd_ne _ _ (ne_dead ha (h.dt it (.head _)))]
 exact h.keep a o ha
theorem stL_cons (n:Int) (p:Nat) (st:List (Int×Nat)):stL ((n,p) :: st)=stL st++[n]:=by unfold stL;simp
theorem itL_cons (it:Addr) (its:List Addr):itL (it :: its)=itL its++[.o (nextObj it)]:=by unfold itL;simp
theorem FC.push {it:Addr} {r:NR} (h:FC σ0 σ S sa ia se na st its seen cnt) (hr:r∈S.ns) (hit:σ it=none) :
  FC σ0 (upd (upd (upd (upd (upd σ se (some (.setI (addSeen seen r.k) (cnt+1)))) it (some (.liter r.l 0))) ia (some (.list (itL (it :: its))))) na (some (.dictI (n2s (stL ((r.k,0) :: st)))))) sa (some (.list (intsL (stL ((r.k,0) :: st)))))) S sa ia se na ((r.k,0) :: st) (it :: its) (addSeen seen r.k) (cnt+1):=by
 have N:=h.nes
 have i1:=ne_dead h.hs hit
 have i2:=ne_dead h.hi hit
 have i3:=ne_dead h.he hit
 have i4:=ne_dead h.hn hit
 have i0:σ0 it=none:=by
  cases e:σ0 it with
  | none=>rfl
  | some o=>rw [h.keep it o e] at hit;cases hit
 have hni:it∉its:=fun hm=>by
  obtain ⟨l,k,e⟩:=h.ht.mem it hm
  rw [hit] at e;cases e
 refine ⟨fun a o ha=>?_,upd_self ..,?_,?_,?_,⟨⟨r,hr,rfl,?_⟩,hni,h.ht.off fun x hx=>?_⟩,h.d1,h.d2,h.d3,h.d4,fun x hx=>?_,h.ne⟩
 ·rw [upd_ne _ _ (ne_dead ha h.d1),upd_ne _ _ (ne_dead ha h.d4),upd_ne _ _ (ne_dead ha h.d2),upd_ne _ _ (ne_dead ha i0),upd_ne _ _ (ne_dead ha h.d3)]
  exact h.keep a o ha
 ·rw [upd_ne _ _ (Ne.symm N.a1),upd_ne _ _ N.a5,upd_self]
 ·rw [upd_ne _ _ (Ne.symm N.a2),upd_ne _ _ N.a6,upd_ne _ _ (Ne.symm N.a4),upd_ne _ _ i3,upd_self]
 ·rw [upd_ne _ _ (Ne.symm N.a3),upd_self]
 ·rw [upd_ne _ _ (Ne.symm i1),upd_ne _ _ (Ne.symm i4),upd_ne _ _ (Ne.symm i2),upd_self]
 ·obtain ⟨t1,t2,t3,t4⟩:=N.t x hx
  rw [upd_ne _ _ t1,upd_ne _ _ t4,upd_ne _ _ t2,upd_ne _ _ (fun e:x=it=>hni (e▸hx)),upd_ne _ _ t3]
 ·rcases List.mem_cons.mp hx with rfl | hx
  ·exact i0
  ·exact h.dt x hx
theorem FC.pop {n:Int} {p:Nat} {it:Addr} (h:FC σ0 σ S sa ia se na ((n,p) :: st) (it :: its) seen cnt) :
  FC σ0 (upd (upd (upd (upd σ it none) sa (some (.list (intsL (stL st))))) na (some (.dictI (n2s (stL st))))) ia (some (.list (itL its)))) S sa ia se na st its seen cnt:=by
 have N:=h.nes
 obtain ⟨t1,t2,t3,t4⟩:=N.t it (.head _)
 obtain ⟨_,hn,ht⟩:=h.ht
 refine ⟨fun a o ha=>?_,?_,upd_self ..,?_,?_,ht.off fun x hx=>?_,h.d1,h.d2,h.d3,h.d4,fun x hx=>h.dt x (.tail _ hx),h.ne⟩
 ·rw [upd_ne _ _ (ne_dead ha h.d2),upd_ne _ _ (ne_dead ha h.d4),upd_ne _ _ (ne_dead ha h.d1),upd_ne _ _ (ne_dead ha (h.dt it (.head _)))]
  exact h.keep a o ha
 ·rw [upd_ne _ _ N.a1,upd_ne _ _ N.a3,upd_self]
 ·rw [upd_ne _ _ (Ne.symm N.a4),upd_ne _ _ N.a6,upd_ne _ _ (Ne.symm N.a2),upd_ne _ _ (Ne.symm t3)];exact h.he
 ·rw [upd_ne _ _ (Ne.symm N.a5),upd_self]
 ·obtain ⟨u1,u2,u3,u4⟩:=N.t x (.tail _ hx)
  rw [upd_ne _ _ u2,upd_ne _ _ u4,upd_ne _ _ u1,upd_ne _ _ (fun e:x=it=>hn (e▸hx))]
end
section
variable {c:Cfg} {A:Around} {σ:Sig}
theorem it_keysI {n:Nat} {d:Addr} {kvs:List (Int×SV)} {target:Expr} (R:Rm n A) (dr:DictR c (intKind c.prog c.w) σ d kvs) (hq:Quiet (σ d)) (ht:NameT target):ItOf c A target (.ref d) σ (kvs.map fun p=>SV.d (.int p.1)):=fun F s E v Q H r h =>
 it_keys R (fun k=>SV.d (.int k)) (fun k v F h=>isInt_key h) (dr F s H).2 (fun F s H=>(dr F s H).1) hq ht F s E v Q H r h
end
noncomputable def unC (g:AG) (seen:Int→Bool):Nat:=(g.filter fun r=>!seen r.k).length
theorem unC_add {seen:Int→Bool}:∀ {g:AG},(g.map (·.k)).Nodup→∀ {r:GN},r∈g→seen r.k=false→unC g (addSeen seen r.k)+1=unC g seen
 | q :: t,hk,r,hr,hs=>by
  rw [List.map_cons,List.nodup_cons] at hk
  unfold unC
  rcases List.mem_cons.mp hr with e | hr'
  ·subst e
   rw [List.filter_cons_of_neg (by simp [addSeen]),List.filter_cons_of_pos (by simp [hs]),List.length_cons]
   congr 2
   refine List.filter_congr fun y hy=>?_
   have:y.k≠r.k:=fun z=>hk.1 (by rw [←z];exact List.mem_map.mpr ⟨y,hy,rfl⟩)
   unfold addSeen
   simp [this]
  ·have hne:q.k≠r.k:=fun z=>hk.1 (by rw [z];exact List.mem_map.mpr ⟨r,hr',rfl⟩)
   have ih:=unC_add hk.2 hr' hs
   unfold unC at ih
   by_cases hq:seen q.k=true
   ·rw [List.filter_cons_of_neg (by simp [addSeen,hq]),List.filter_cons_of_neg (by simp [hq])]
    exact ih
   ·rw [List.filter_cons_of_pos (by simp [addSeen,hq,hne]),List.filter_cons_of_pos (by simpa using hq),List.length_cons,List.length_cons]
    exact om158 ih
end Mine
end
section
set_option maxHeartbeats 400000
namespace Mine
noncomputable def NxQ (P:Sig→Prop) (Q:SFlow→Sig→Prop):SFlow→Sig→Prop
 | .next,σ=>P σ
 | f,σ=>Q f σ
theorem opQ {c:Cfg} {A:Around} {t:Sem Flow} {σ:Sig} {P:Sig→Prop} {Q:SFlow→Sig→Prop} (h:∀ P',(∀ σ1,P σ1→P' σ1)→TF c A t σ (NxQ P' Q)):TF c A t σ (NxQ P Q):=h P fun _ q=>q
theorem T_consQ {c:Cfg} {A:Around} {env:Env} {σ:Sig} {st:Stmt} {rest:List Stmt} {Q:SFlow→Sig→Prop} (P:Sig→Prop) (h1:TF c A (exec st env) σ (NxQ P Q)) (h2:∀ σ1,P σ1→TF c A (execs rest env) σ1 Q):TF c A (execs (st :: rest) env) σ Q :=
 T_cons (h1.mono fun fl σ1 q=>by cases fl with | next=>exact h2 σ1 q | brk=>exact q | cont=>exact q | ret v=>exact q)
noncomputable def frF (S:SS) (sa ia se na:Addr):List (Str×SV):=[(Str.ofString "self",.ref S.x),(Str.ofString "n2i",.ref S.d),(Str.ofString "stack",.ref sa),(Str.ofString "itstack",.ref ia),(Str.ofString "seen",.ref se),(Str.ofString "node2stacki",.ref na)]
noncomputable def frFn (S:SS) (sa ia se na:Addr) (node:Int):List (Str×SV):=[(Str.ofString "self",.ref S.x),(Str.ofString "n2i",.ref S.d),(Str.ofString "stack",.ref sa),(Str.ofString "itstack",.ref ia),(Str.ofString "seen",.ref se),(Str.ofString "node2stacki",.ref na),(Str.ofString "node",.d (.int node))]
theorem GphR.keepG {σ σ':Sig} {S:SS} (g:GphR σ S) (k:∀ a o,σ a=some o→σ' a=some o):GphR σ' S where
 hx:=k _ _ g.hx
 hdx:=k _ _ g.hdx
 hd:=k _ _ g.hd
 hr:=fun a ha=>k _ _ (g.hr a ha)
 hn:=fun r hr=>⟨k _ _ (g.hn r hr).1,k _ _ (g.hn r hr).2.1,k _ _ (g.hn r hr).2.2⟩
 keys:=g.keys
theorem abs_keys {S:SS}:(absG S).map (·.k)=S.ns.map (·.k):=by
 unfold absG
 rw [List.map_map];rfl
structure FI (G0:AG) (σ0 σ2:Sig) (S:SS) (sa ia se na L:Addr) (seen0:Int→Bool) (st:List (Int×Nat)) (its:List Addr) (seen:Int→Bool) (fin:List Int):Prop where
 ok:FrOk σ2 L []
 ex:∃ cnt,FC σ0 σ2 S sa ia se na st its seen cnt∧cnt+unC G0 seen=G0.length
 dfs:DFS G0 seen fin st
 mono:∀ k,seen0 k=true→seen k=true
 slen:st.length+unC G0 seen≤G0.length
theorem stL_len (st:List (Int×Nat)):(stL st).length=st.length:=by simp [stL]
inductive FJ1 (G0:AG) (σ:Sig) (S:SS) (sa ia se na L:Addr) (i:Nat) (σ':Sig):Prop
 | mk (σ3:Sig) (seen:Int→Bool) (fin:List Int) (e:σ'=fr σ3 L [] (mkm (frF S sa ia se na))) (fi:FI G0 σ σ3 S sa ia se na L (fun _=>false) [] [] seen fin) (h:∀ (j:Nat) k,j < i→(S.ns.map (·.k))[j]?=some k→seen k=true):FJ1 G0 σ S sa ia se na L i σ'
inductive FJ2 (G0:AG) (σ:Sig) (S:SS) (sa ia se na L:Addr) (seen0:Int→Bool) (k0:Int) (n:Nat) (σ':Sig):Prop
 | mk (node:Int) (σ4:Sig) (st:List (Int×Nat)) (its:List Addr) (seen:Int→Bool) (fin:List Int) (e:σ'=fr σ4 L [] (mkm (frFn S sa ia se na node))) (fi:FI G0 σ σ4 S sa ia se na L seen0 st its seen fin) (pd:PD G0 fin node st) (hg:gHas G0 node=true) (h0:st=[]→seen node=false∧node=k0) (h1:st≠[]→seen k0=true) (hn:n=unS G0 seen+onS G0 st):FJ2 G0 σ S sa ia se na L seen0 k0 n σ'
inductive FJ3 (G0:AG) (σ:Sig) (S:SS) (sa ia se na L:Addr) (seen0:Int→Bool) (k0 node:Int) (no:Nat) (σ':Sig):Prop
 | mk (σ5:Sig) (st:List (Int×Nat)) (its:List Addr) (seen:Int→Bool) (fin:List Int) (e:σ'=fr σ5 L [] (mkm (frFn S sa ia se na node))) (fi:FI G0 σ σ5 S sa ia se na L seen0 st its seen fin) (cl:CL G0 fin st) (h0:seen k0=true) (hn:unS G0 seen+onS G0 st≤no):FJ3 G0 σ S sa ia se na L seen0 k0 node no σ'
inductive FJ4 (G0:AG) (σ:Sig) (S:SS) (sa ia se na L:Addr) (seen0:Int→Bool) (k0:Int) (no n:Nat) (σ':Sig):Prop
 | mk (node:Int) (σ6:Sig) (st:List (Int×Nat)) (its:List Addr) (seen:Int→Bool) (fin:List Int) (e:σ'=fr σ6 L [] (mkm (frFn S sa ia se na node))) (fi:FI G0 σ σ6 S sa ia se na L seen0 st its seen fin) (cl:CL G0 fin st) (h0:seen k0=true) (hm:unS G0 seen+onS G0 st≤no) (hn:n=onS G0 st):FJ4 G0 σ S sa ia se na L seen0 k0 no n σ'
section
variable {G:GC} {A:Around} {σ:Sig} {n:Nat} {Q:SV→Sig→Prop} {S:SS}
theorem W_findcycle {l:List Env} (R:Rm (n+2) A) (fA:FrA A σ l) (g:GphR σ S) (hcl:∀ r∈S.ns,∀ s∈r.su,s∈S.ns.map (·.k)) (hz:S.ns.length≤50)
  (h0:Acyc (absG S)→∀ σ',(∀ a o,σ a=some o→σ' a=some o)→Q (.d .none) σ')
  (h1:∀ ring,IsRing (absG S) ring→ring.length≤60→∀ σ',(∀ a o,σ a=some o→σ' a=some o)→Q (.d (.list (ring.map PyData.int))) σ'):CallT G.c A (.ref 127) [.ref S.x] σ Q:=by
 refine C_fnC (f:=127) [(Str.ofString "self",.ref S.x)] (fun _=>[]) rfl ?_ R (fun F vs p=>?_) (fun L ok=>?_) (fun L=>?_) (fun L y hy=>?_) ?_ ?_ [Str.ofString "self"] rfl ?_ rfl rfl rfl
 ·rfl
 ·exact pr1 (fun v a=>⟨_,fun S=>rfl,.cons ⟨rfl,a⟩ .nil⟩) p
 ·have gf:=g.fr (m:=mkm [(Str.ofString "self",.ref S.x)]) ok
  refine T_cons (t_as (t_attr (t_loc rfl <| A_get (.inl gf.hx) (.inl gf.hdx) rfl handed_ref (t_st ?_) (k137_get _ _) (k137_dict _) (k137_f1 _) rfl)))
  refine Nx.next <| T_cons <| t_as <| t_list0 ok fun sa N1=>t_st <| Nx.next <| T_cons <| t_as <| t_list0 N1.ok fun ia N2=>t_st <| Nx.next <| T_cons <| t_as <| t_callB rfl (by rfl) (by decide) (kept_type _) <| t_a0 <| c_set0 N2.ok fun se N3=>t_st <| Nx.next <| T_cons <| t_as <| t_dict0I N3.ok fun na N4=>t_st <| Nx.next ?_
  have f1:=N1.free
  have f2:=N2.free
  have f3:=N3.free
  have f4:=N4.free
  have w12:sa≠ia:=fun q=>by rw [←q,upd_self] at f2;cases f2
  have w13:sa≠se:=fun q=>by rw [←q,upd_ne _ _ w12,upd_self] at f3;cases f3
  have w23:ia≠se:=fun q=>by rw [←q,upd_self] at f3;cases f3
  have w14:sa≠na:=fun q=>by rw [←q,upd_ne _ _ w13,upd_ne _ _ w12,upd_self] at f4;cases f4
  have w24:ia≠na:=fun q=>by rw [←q,upd_ne _ _ w23,upd_self] at f4;cases f4
  have w34:se≠na:=fun q=>by rw [←q,upd_self] at f4;cases f4
  have s2:σ ia=none:=by rwa [upd_ne _ _ (Ne.symm w12)] at f2
  have s3:σ se=none:=by rwa [upd_ne _ _ (Ne.symm w23),upd_ne _ _ (Ne.symm w13)] at f3
  have s4:σ na=none:=by rwa [upd_ne _ _ (Ne.symm w34),upd_ne _ _ (Ne.symm w24),upd_ne _ _ (Ne.symm w14)] at f4
  have fc0:FC σ (upd (upd (upd (upd σ sa (some (.list []))) ia (some (.list []))) se (some (.setI (fun _=>false) 0))) na (some (.dictI []))) S sa ia se na [] [] (fun _=>false) 0:=by
   refine ⟨fun a o ha=>?_,?_,?_,?_,upd_self ..,trivial,f1,s2,s3,s4,nofun,w12⟩
   ·rw [upd_ne _ _ (ne_dead ha s4),upd_ne _ _ (ne_dead ha s3),upd_ne _ _ (ne_dead ha s2),upd_ne _ _ (ne_dead ha f1)];exact ha
   ·rw [upd_ne _ _ w14,upd_ne _ _ w13,upd_ne _ _ w12,upd_self];rfl
   ·rw [upd_ne _ _ w24,upd_ne _ _ w23,upd_self];rfl
   ·rw [upd_ne _ _ w34,upd_self]
  have ok:=N4.ok
  clear N1 N2 N3 N4
  generalize hσ2:upd (upd (upd (upd σ sa (some (.list []))) ia (some (.list []))) se (some (.setI (fun _=>false) 0))) na (some (.dictI []))=σ2 at *
  refine t_fit (frF S sa ia se na) ⟨rfl,rfl,rfl,rfl,rfl,rfl,trivial⟩ ?_
  generalize hG0:absG S=G0 at *
  have hkN:(G0.map (·.k)).Nodup:=by rw [←hG0,abs_keys];exact g.keys
  have hGl:G0.length≤50:=by rw [←hG0,absG_len];exact hz
  have hsuof:∀ q∈S.ns,suOf G0 q.k=q.su:=fun q hq=>by rw [←hG0];exact su_abs g.keys hq
  have hhas:∀ k,gHas G0 k=true↔k∈S.ns.map (·.k):=fun k=>by rw [←hG0];exact gHas_abs
  have fi0:FI G0 σ σ2 S sa ia se na L (fun _=>false) [] [] (fun _=>false) []:=⟨ok,⟨0,fc0,by unfold unC;simp⟩,⟨trivial,fun k=>by simp,.nil,nofun,nofun⟩,nofun,by unfold unC;simpa using List.length_filter_le _ _⟩
  have gR:∀ {σ3:Sig},FrOk σ3 L []→(∀ a o,σ a=some o→σ3 a=some o)→∀ m,GphR (fr σ3 L [] m) S:=fun ok3 k m=>(g.keepG k).fr ok3
  refine T_cons (t_for (t_loc rfl ⟨_,FJ1 G0 σ S sa ia se na L,
   it_keysI (R.deeper _) (gR_dict (gR ok fc0.keep _)) (by rw [(gR ok fc0.keep _).hd];rfl) ⟨_,_,rfl⟩,⟨σ2,_,_,rfl,fi0,nofun⟩,?_,?_⟩))
  ·rintro i y σ' hy Hh
   refine cps fun Z z=>?_
   obtain ⟨σ3,seen0,fin0,rfl,fi,hseen⟩:=Hh
   unfold SS.kv at hy
   rw [List.map_map,List.getElem?_map] at hy
   obtain ⟨r0,hr0,rfl⟩:=Option.map_eq_some_iff.mp hy
   have hr0m:=List.mem_of_getElem? hr0
   have hkey:(S.ns.map (·.k))[i]?=some r0.k:=by rw [List.getElem?_map,hr0];rfl
   obtain ⟨cnt,fc,hcnt⟩:=fi.ex
   have ok:=fi.ok
   refine z ?_;clear z Z
   refine t_asN (opF fun P1 i1=>T_cons (T_if (t_isCmp (t_loc rfl <| t_loc rfl <| O_inSet (.inl (fr_some ok fc.he)) <| truth_bool ⟨fun hb=>?_,fun hb=>?_⟩))))
   ·refine t_fit (frF S sa ia se na) ⟨rfl,rfl,rfl,rfl,rfl,rfl,trivial⟩ (T_cons (T_continue (Nx.cont (Nx.cont (i1 _ ⟨σ3,seen0,fin0,rfl,fi,fun j k hj hjk=>?_⟩)))))
    by_cases e:j=i
    ·subst e;rw [hkey] at hjk;cases hjk;exact hb
    ·exact hseen j k (om175 hj e) hjk
   ·refine T_nil (Nx.next ?_)
    refine t_fit (frFn S sa ia se na r0.k) ⟨rfl,rfl,rfl,rfl,rfl,rfl,rfl,trivial⟩ ?_
    refine T_cons (T_while (FJ2 G0 σ S sa ia se na L seen0 r0.k) (unS G0 seen0+onS G0 []) ⟨r0.k,σ3,[],[],seen0,fin0,rfl,⟨ok,fi.ex,fi.dfs,fun _ h=>h,fi.slen⟩,trivial,(hhas _).mpr (List.mem_map.mpr ⟨r0,hr0m,rfl⟩),fun _=>⟨hb,rfl⟩,nofun,rfl⟩ ?_)
    rintro no σ' Hh
    refine cps fun Z z=>?_
    obtain ⟨node,σ4,st,its,seen,fin,rfl,fi,pd,hgn,hst0,hst1,hno⟩:=Hh
    refine z ?_;clear z Z
    refine t_isVal (T_true (truth_bool ⟨fun _=>opF fun P2 i2=>?_,nofun⟩))
    obtain ⟨cnt,fc,hcnt⟩:=fi.ex
    have ok:=fi.ok
    have hsl:(stL st).length≤50:=by rw [stL_len];have:=fi.slen;exact om327 hGl ‹_› hcnt this
    refine T_consQ (FJ3 G0 σ S sa ia se na L seen0 r0.k node no) (opQ fun P3 i3=>T_if (t_isCmp (t_loc rfl <| t_loc rfl <| O_inSet (.inl (fr_some ok fc.he)) <| truth_bool ⟨fun hb1=>?_,fun hb1=>?_⟩))) ?_
    ·have hne:st≠[]:=fun e=>by have:=(hst0 e).1;rw [hb1] at this;cases this
     have dn:=fr_some (m:=mkm (frFn S sa ia se na node)) ok fc.hn
     refine T_cons (T_if (t_isCmp (t_loc rfl <| t_loc rfl <| D_in (DictR.I (.inl dn)) KeyR.int <| truth_bool ⟨fun hb2=>?_,fun hb2=>?_⟩)))
     ·rw [n2s_get] at hb2
      have hin:node∈stL st:=by
       by_cases h:node∈stL st
       ·exact h
       ·rw [if_neg h] at hb2;cases hb2
      have hidx:=List.idxOf_lt_length_iff.mpr hin
      refine T_cons (T_ret (T_bin (T_slice (t_loc rfl <| T_partSome <| t_sub slot_dict_getitem.lookup (t_loc rfl <| t_loc rfl ⟨typeD (DictR.I (.inl dn)),G_dict (DictR.I (.inl dn)) KeyR.int (by rw [n2s_get,if_pos hin]) <| T_partNone ⟨(stL st).map PyData.int,some ((stL st).idxOf node:Nat),none,((stL st).idxOf node:Int).toNat,((stL st).map PyData.int).length,.inl (AsList.ref ((fr_some ok fc.hs).trans (by rw [ints_ds]))),by simp;exact om117 hsl,?_,?_,slice_from (om77),?_⟩⟩)) (fun _ _=>rfl))))
      ·exact rfl
      ·exact rfl
      ·refine T_listF (T_spl_cons (t_loc rfl (T_spl_nil ⟨[.int node],rfl,by simp,O_concatF (es:=[.int node]) .d .d (by simp;exact om195 hsl) ?_⟩)) rfl)
       have e:(((stL st).map PyData.int).drop ((stL st).idxOf node:Int).toNat).take ((stL st).map PyData.int).length++[PyData.int node]=(((stL st).drop ((stL st).idxOf node))++[node]).map PyData.int:=by
        rw [Int.toNat_natCast,List.take_of_length_le (by simp),List.map_append,List.map_drop];rfl
       rw [e]
       exact (show RetQ L [] Q (.ret _) _ from ⟨σ4,_,rfl,ok,h1 _ (pd.ring fi.dfs hin) (by rw [List.length_append,List.length_drop];simp;exact om194 hsl) σ4 fc.keep⟩)
     ·rw [n2s_get] at hb2
      have hni:node∉stL st:=fun h=>by rw [if_pos h] at hb2;cases hb2
      have hfin:node∈fin:=by
       rcases (fi.dfs.iff node).mp hb1 with h | h
       ·exact h
       ·exact absurd (by unfold stL;simpa using h) hni
      refine T_nil (Nx.next (T_nil (i3 _ ⟨σ4,st,its,seen,fin,rfl,fi,?_,hst1 hne,Nat.le_of_eq hno.symm⟩)))
      cases st with
      | nil=>exact absurd rfl hne
      | cons mq r=>obtain ⟨m,q⟩:=mq;exact CL.of_fin pd hfin
    ·obtain ⟨q,hq,hqk⟩:=List.mem_map.mp ((hhas node).mp hgn)
     have hqk:q.k=node:=hqk
     have hqG:(⟨q.k,q.np,q.su⟩:GN)∈G0:=by rw [←hG0];exact abs_mem hq
     have hnst:node∉stL st:=fun h=>by
      have:=(fi.dfs.iff node).mpr (.inr (by unfold stL at h;simpa using h))
      rw [hb1] at this;cases this
     have hua:=unS_add hkN hqG (by show seen q.k=false;rw [hqk];exact hb1)
     have hca:=unC_add hkN hqG (by show seen q.k=false;rw [hqk];exact hb1)
     have N:=fc.nes
     refine T_cons (t_ex (t_meth m_add (t_loc rfl ⟨oft_set (.inl (fr_some ok fc.he)),t_a1 (t_loc rfl <| o_setadd ok fc.he (om326 hGl ‹_› hcnt hca) fun ok=>Nx.next ?_)⟩)))
     rw [hb1,if_neg (by simp)] at ok ⊢
     change FrOk (upd σ4 se (some (.setI (addSeen seen node) (cnt+1)))) L [] at ok
     show TF _ _ _ (fr (upd σ4 se (some (.setI (addSeen seen node) (cnt+1)))) L [] _) _
     have ka:∀ a o,σ a=some o→upd σ4 se (some (.setI (addSeen seen node) (cnt+1))) a=some o:=fun a o ha=>by rw [upd_ne _ _ (ne_dead ha fc.d3)];exact fc.keep a o ha
     have ia1:upd σ4 se (some (.setI (addSeen seen node) (cnt+1))) ia=some (.list (itL its)):=by rw [upd_ne _ _ N.a4];exact fc.hi
     have g5:=gR ok ka (mkm (frFn S sa ia se na node))
     have dr:=gR_dict (G:=G) g5
     have hlen:(itL its).length≤50:=by
      unfold itL
      have:∀ {st:List (Int×Nat)} {its:List Addr},Its σ4 S st its→its.length=st.length:=fun {st}=>by
       induction st with
       | nil=>intro its h;cases its with | nil=>rfl | cons _ _=>exact h.elim
       | cons p r ih=>intro its h;cases its with | nil=>exact h.elim | cons _ _=>simp [ih h.2.2]
      have e:=this fc.ht
      simp;have:=fi.slen;exact om335 hGl ‹_› hcnt hca e this
     refine T_cons (t_ex (t_meth m_append (t_loc rfl ⟨oft_list (AsList.ref (fr_some ok ia1)),t_a1 (t_attrA (t_callB rfl (by rfl) (by decide) (kept_builtin _) (t_a1 (t_attrA (t_sub slot_dict_getitem.lookup (t_loc rfl <| t_loc rfl ⟨typeD dr,G_dict dr KeyR.int (hqk▸kv_get g.keys hq) <| gR_su g5 hq <| C_iter (.inr (g5.hn q hq).2.2) fun it hit=>A_next (upd_self ..) ?_⟩)))) ))⟩)))
     rw [upd_upd,upd_fr_none _ hit]
     have ok:=ok.new (some (.liter q.l 0)) hit
     have hitσ:=(fr_none hit).2.2
     have hit4:σ4 it=none:=by
      by_cases e:it=se
      ·rw [e,upd_self] at hitσ;cases hitσ
      ·rwa [upd_ne _ _ e] at hitσ
     have i1:=ne_dead fc.hs hit4
     have i2:=ne_dead fc.hi hit4
     have i4:=ne_dead fc.hn hit4
     have fp:=fc.push hq hit4
     have ia2:upd (upd σ4 se (some (.setI (addSeen seen node) (cnt+1)))) it (some (.liter q.l 0)) ia=some (.list (itL its)):=by rw [upd_ne _ _ i2];exact ia1
     refine o_append ok ia2 (om117 hlen) fun ok=>Nx.next ?_
     rw [←itL_cons] at ok ⊢
     have sa3:upd (upd (upd σ4 se (some (.setI (addSeen seen node) (cnt+1)))) it (some (.liter q.l 0))) ia (some (.list (itL (it :: its)))) sa=some (.list (intsL (stL st))):=by rw [upd_ne _ _ N.a1,upd_ne _ _ i1,upd_ne _ _ N.a2];exact fc.hs
     have na3:upd (upd (upd σ4 se (some (.setI (addSeen seen node) (cnt+1)))) it (some (.liter q.l 0))) ia (some (.list (itL (it :: its)))) na=some (.dictI (n2s (stL st))):=by rw [upd_ne _ _ (Ne.symm N.a5),upd_ne _ _ i4,upd_ne _ _ (Ne.symm N.a6)];exact fc.hn
     refine T_cons (T_assignSub (t_callB rfl (by rfl) (by decide) (kept_builtin _) (t_a1 (t_loc rfl <| O_len (AsList.ref (fr_some ok sa3)) (by simp;exact om117 hsl) <| t_loc rfl <| t_loc rfl <| s_dictI ok na3 (by rw [n2s_len];exact om117 hsl) fun ok=>Nx.next ?_))) rfl)
     rw [List.length_map,n2s_set hnst] at ok ⊢
     have sa4:upd (upd (upd (upd σ4 se (some (.setI (addSeen seen node) (cnt+1)))) it (some (.liter q.l 0))) ia (some (.list (itL (it :: its))))) na (some (.dictI (n2s (stL st++[node])))) sa=some (.list (intsL (stL st))):=by rw [upd_ne _ _ N.a3];exact sa3
     refine T_cons (t_ex (t_meth m_append (t_loc rfl ⟨oft_list (AsList.ref (fr_some ok sa4)),t_a1 (t_loc rfl <| o_append ok sa4 (by simp;exact om117 hsl) fun ok=>Nx.next ?_)⟩)))
     rw [stL_cons,hqk] at fp
     rw [show intsL (stL st)++[SV.d (.int node)]=intsL (stL st++[node]) by simp] at ok ⊢
     rw [hqk] at hua hca
     dsimp only at hua hca
     refine T_nil (i3 _ ⟨_,(node,0) :: st,it :: its,addSeen seen node,fin,rfl,⟨ok,⟨cnt+1,fp,om324 ‹_› hcnt hca⟩,fi.dfs.push hb1 hgn,fun k hk=>by unfold addSeen;rw [fi.mono k hk];rfl,by simp;have:=fi.slen;exact om330 ‹_› hcnt hca this⟩,⟨nofun,pd⟩,?_,?_⟩)
     ·by_cases e:st=[]
      ·unfold addSeen;rw [(hst0 e).2];simp
      ·unfold addSeen;rw [hst1 e];rfl
     ·rw [onS_push,←hqk,hsuof q hq,hqk];exact om321 hno hua
    ·rintro σ1 Hh
     refine cps fun Z z=>?_
     obtain ⟨σ5,st,its,seen,fin,rfl,fi,cl,hs0,hm⟩:=Hh
     refine z ?_;clear z Z
     refine T_cons (T_while (FJ4 G0 σ S sa ia se na L seen0 r0.k no) (onS G0 st) ⟨node,σ5,st,its,seen,fin,rfl,fi,cl,hs0,hm,rfl⟩ ?_)
     clear fi cl hs0 hm fc
     rintro ni σ' Hh
     refine cps fun Z z=>?_
     obtain ⟨node,σ6,st,its,seen,fin,rfl,fi,cl,hs0,hm,hni⟩:=Hh
     obtain ⟨cnt,fc,hcnt⟩:=fi.ex
     have ok:=fi.ok
     have hsl:(stL st).length≤50:=by rw [stL_len];have:=fi.slen;exact om336 hGl ‹_› ‹_› hcnt this
     refine z ?_;clear z Z
     refine t_isVal (t_loc rfl <| truth_list (AsList.ref (fr_some ok fc.hs)) (by simp;exact om117 hsl) ⟨fun hb2=>opF fun P4 i4=>?_,fun hb2=>?_⟩)
     ·cases st with
      | nil=>cases hb2
      | cons np st =>
       obtain ⟨nn,p⟩:=np
       cases its with
       | nil=>exact fc.ht.elim
       | cons it its =>
        have hts:=fc.ht
        obtain ⟨⟨q,hq,hqk,hit⟩,hnit,ht⟩:=hts
        dsimp only at hqk hit
        have hsu:suOf G0 nn=q.su:=by rw [←hqk];exact hsuof q hq
        have N:=fc.nes
        obtain ⟨t1,t2,t3,t4⟩:=N.t it (.head _)
        have g6:=gR ok fc.keep (mkm (frFn S sa ia se na node))
        have hia:σ6 ia=some (.list (itL its++[.o (nextObj it)])):=by rw [←itL_cons];exact fc.hi
        have hil:(itL its).length≤50:=by
         have:∀ {st:List (Int×Nat)} {its:List Addr},Its σ6 S st its→its.length=st.length:=fun {st}=>by
          induction st with
          | nil=>intro its h;cases its with | nil=>rfl | cons _ _=>exact h.elim
          | cons p r ih=>intro its h;cases its with | nil=>exact h.elim | cons _ _=>simp [ih h.2.2]
         have e:=this ht
         unfold itL
         rw [stL_len] at hsl
         simp at hsl ⊢;exact om186 e hsl
        refine T_cons (T_tryStop (outer:=l) (LL:=L) (fun σ'=>σ'=fr (upd σ6 it none) L [] (mkm (frFn S sa ia se na node))∧q.su[p]?=none) rfl (X_cons (X_assign (X_next (R.deeper _).hh (t_sub slot_list_getitem.lookup (t_loc rfl <| T_un (T_int (O_neg ⟨typeL (AsList.ref (fr_some ok hia)),G_last (AsList.ref (fr_some ok hia)) (om117 hil) ⟨it,q.l,intsL q.su,p,rfl,fr_some ok hit,.inr (g6.hn q hq).2.2,?_⟩⟩))))))) ?_ ?_ rfl (by rfl) (by decide))
        ·unfold NextQ
         rw [List.getElem?_map]
         cases e:q.su[p]? with
         | none=>exact ⟨upd_fr_some ok _ hit,rfl⟩
         | some x =>
          dsimp only [Option.map]
          rw [upd_fr_some ok _ hit]
          have ok:=ok.set (some (.liter q.l (p+1))) hit
          have fi2:=fc.item hq hqk
          rw [←hsu] at e
          have hd2:=onS_item (st:=st) e
          refine t_st (Nx.next (T_cons (T_break ?_)))
          refine Nx.brk (t_fit (frFn S sa ia se na x) ⟨rfl,rfl,rfl,rfl,rfl,rfl,rfl,trivial⟩ (T_nil ?_))
          refine i2 _ ⟨unS G0 seen+onS G0 ((nn,p+1) :: st),om332 hno hm hni hd2,x,_,(nn,p+1) :: st,it :: its,seen,fin,rfl,⟨ok,⟨cnt,fi2,hcnt⟩,⟨fi.dfs.topo,fi.dfs.iff,fi.dfs.nd,fi.dfs.disj,fi.dfs.keys⟩,fi.mono,fi.slen⟩,cl.item e,(hhas x).mpr (hcl q hq x ?_),nofun,fun _=>hs0,rfl⟩
          rw [hsu] at e
          exact List.mem_of_getElem? e
        ·rintro σ' ⟨rfl,_⟩
         refine FrA.deeper (fA.keep fun a m ha=>⟨m,?_⟩) (by intro h;cases h) rfl (ok.set none hit)
         rw [upd_ne _ _ (ne_dead ha (fc.dt it (.head _)))]
         exact fc.keep _ _ ha
        ·rintro σ' e Hh
         refine cps fun Z z=>?_
         obtain ⟨rfl,hnone⟩:=Hh
         rw [←hsu] at hnone
         obtain ⟨dfs2,cl2⟩:=fi.dfs.pop cl hnone
         have fp:=fc.pop
         have hnn:nn∉stL st:=by
          have:=fi.dfs.nd
          rw [List.map_cons,List.nodup_cons] at this
          unfold stL;simpa using this.1
         have ok:=ok.set none hit
         have sa7:upd σ6 it none sa=some (.list (intsL (stL st)++[.d (.int nn)])):=by
          rw [upd_ne _ _ (Ne.symm t1),fc.hs,stL_cons];simp
         have hsl2:(stL st).length≤50:=by rw [stL_len] at hsl ⊢;simp at hsl;exact om115 hsl
         have na7:upd (upd σ6 it none) sa (some (.list (intsL (stL st)))) na=some (.dictI (n2s (stL st++[nn]))):=by
          rw [upd_ne _ _ (Ne.symm N.a3),upd_ne _ _ (Ne.symm t4),fc.hn,stL_cons]
         refine z ?_;clear z Z
         refine T_cons (T_delSub (t_loc rfl <| t_meth m_pop (t_loc rfl ⟨oft_list (AsList.ref (fr_some ok sa7)),t_a0 (o_pop ok sa7 (by simp;exact om117 hsl2) fun ok=>del_dictI ok na7 (by rw [n2s_len];simp;exact om118 hsl2) (by rw [n2s_get,if_pos (by simp)];rfl) fun ok=>Nx.next ?_)⟩)))
         rw [n2s_del hnn] at ok ⊢
         have ia7:upd (upd (upd σ6 it none) sa (some (.list (intsL (stL st))))) na (some (.dictI (n2s (stL st)))) ia=some (.list (itL its++[.o (nextObj it)])):=by
          rw [upd_ne _ _ N.a5,upd_ne _ _ (Ne.symm N.a1),upd_ne _ _ (Ne.symm t2)];exact hia
         refine T_cons (t_ex (t_meth m_pop (t_loc rfl ⟨oft_list (AsList.ref (fr_some ok ia7)),t_a0 (o_pop ok ia7 (om117 hil) fun ok=>Nx.next (T_nil (Nx.next (T_nil ?_))))⟩)))
         have hd3:=onS_pop (g:=G0) (st:=st) (n:=nn) (p:=p)
         exact i4 _ ⟨onS G0 st,om252 hni hd3,node,_,st,its,seen,nn :: fin,rfl,⟨ok,⟨cnt,fp,hcnt⟩,dfs2,fi.mono,by have:=fi.slen;simp at this;exact om334 ‹_› ‹_› hcnt this⟩,cl2,hs0,om333 hno hm hni hd3,rfl⟩
     ·have hst:st=[]:=by
       cases st with
       | nil=>rfl
       | cons a r=>obtain ⟨a1,a2⟩:=a;rw [stL_cons] at hb2;simp at hb2
      subst hst
      have hits:its=[]:=by
       cases its with
       | nil=>rfl
       | cons _ _=>exact fc.ht.elim
      subst hits
      refine T_cons (T_break (Nx.brk (t_fit (frF S sa ia se na) ⟨rfl,rfl,rfl,rfl,rfl,rfl,trivial⟩ (T_nil (i1 _ ⟨σ6,seen,fin,rfl,⟨ok,⟨cnt,fc,hcnt⟩,fi.dfs,nofun,fi.slen⟩,fun j k hj hjk=>?_⟩)))))
      by_cases e:j=i
      ·subst e;rw [hkey] at hjk;cases hjk;exact hs0
      ·exact fi.mono k (hseen j k (om175 hj e) hjk)
  ·rintro σ' Hh
   refine cps fun Z z=>?_
   obtain ⟨σ3,seen,fin,rfl,fi,hseen⟩:=Hh
   refine z ?_;clear z Z
   refine Nx.next (T_cons (T_ret (T_none ⟨σ3,_,rfl,fi.ok,?_⟩)))
   obtain ⟨cnt,fc,_⟩:=fi.ex
   refine h0 ⟨fin,fi.dfs.topo,fun k hk=>?_⟩ σ3 fc.keep
   obtain ⟨j,hj⟩:=List.mem_iff_getElem?.mp ((hhas k).mp hk)
   have hs:=hseen j k (by have:=(List.getElem?_eq_some_iff.mp hj).1;simpa [SS.kv] using this) hj
   rcases (fi.dfs.iff k).mp hs with h | h
   ·exact h
   ·cases h
 ·rfl
 ·simp at hy;rcases hy with rfl;exact .inl rfl
 ·decide
 ·decide
 ·decide
end
end Mine
end
section
set_option maxHeartbeats 400000
namespace Mine
theorem topo_lt {g:AG}:∀ {fin:List Int},Topo g fin→∀ {n x:Int},n∈fin→x∈suOf g n→x∈fin∧fin.idxOf n < fin.idxOf x
 | m :: r,⟨h1,h2,h3⟩,n,x,hn,hx=>by
  have idx:∀ y,y∈r→(m :: r).idxOf y=r.idxOf y+1:=fun y hy=>by
   rw [List.idxOf_cons,show (m == y)=false by
    have:m≠y:=fun z=>h2 (z▸hy)
    simpa using this,cond_false]
  rcases List.mem_cons.mp hn with e | hn'
  ·subst e
   have:=h1 x hx
   refine ⟨.tail _ this,?_⟩
   rw [idx x this,List.idxOf_cons_self];exact om78
  ·obtain ⟨a,b⟩:=topo_lt h3 hn' hx
   refine ⟨.tail _ a,?_⟩
   rw [idx n hn',idx x a];exact om177 b
theorem path_lt {g:AG} {fin:List Int} (h:Topo g fin):∀ {l:List Int} {a b:Int},a∈fin→Pth g (a :: l++[b])→fin.idxOf a < fin.idxOf b
 | [],a,b,ha,hp=>(topo_lt h ha hp.1).2
 | x :: l,a,b,ha,hp=>by
  obtain ⟨h1,h2⟩:=topo_lt h ha hp.1
  exact Nat.lt_trans h2 (path_lt h h1 hp.2)
theorem su_key {g:AG} {a b:Int} (h:b∈suOf g a):gHas g a=true:=by
 unfold suOf at h
 cases e:g.find? (fun r=>r.k == a) with
 | none=>rw [e] at h;cases h
 | some r =>
  unfold gHas
  rw [List.any_eq_true]
  exact ⟨r,List.mem_of_find?_eq_some e,by simpa using List.find?_some e⟩
theorem ring_not_acyc {g:AG} {ring:List Int} (h:IsRing g ring):¬Acyc g:=by
 rintro ⟨fin,ht,hall⟩
 obtain ⟨n,l,rfl,_⟩:=h.ex
 have hp:=h.path
 have hn:n∈fin:=by
  cases l with
  | nil=>exact hall n (su_key hp.1)
  | cons x l=>exact hall n (su_key hp.1)
 exact absurd (path_lt ht hn hp) (Nat.lt_irrefl _)
theorem T_joined {c:Cfg} {A:Around} {σ:Sig} {env:Env} {v:Expr} {pos:Pos} {Q:SV→Sig→Prop} (h:TV c A (eval v env) σ Q):TV c A (eval (.JoinedStr [v] pos) env) σ Q:=.mk fun F s E H=>wpAny_JoinedStr_one (h.run F s E H)
noncomputable def readyG (g:AG):List Int:=g.filterMap fun r=>if r.np=0 then some r.k else none
theorem keep_back {σ σ':Sig} {L:Addr} {cs:List (Str×Addr)} {m:Str→Option SV} (ok:FrOk σ L cs) (k:∀ a o,fr σ L cs m a=some o→σ' a=some o):∃ σ3,σ'=fr σ3 L cs m∧FrOk σ3 L cs∧∀ a o,σ a=some o→σ3 a=some o:=by
 have hL:σ' L=fr σ L cs m L:=by rw [k L _ (fr_self ..),fr_self]
 have hc:∀ p∈cs,σ' p.2=fr σ L cs m p.2:=fun p hp=>by
  have e:=fr_cell (m:=m) ok (lookup_of_mem ok.names (show (p.1,p.2)∈cs from hp))
  rw [k _ _ e,e]
 refine ⟨unfr σ' L cs,unfr_eq hL hc,unfr_ok (σ:=σ) (σ':=σ') ok,fun a o ha=>?_⟩
 have q:=frOk_off ok ha
 rw [unfr_off q.1 q.2]
 exact k a o (fr_some ok ha)
section
variable {σ σ':Sig} {S S':SS}
theorem StepR.keepS {σ2:Sig} (st:StepR σ σ' S S') (k:∀ a o,σ' a=some o→σ2 a=some o):StepR σ σ2 S S' :=
 ⟨st.gph.keepG k,st.x,st.dx,st.d,st.sk,fun a o ha p=>k a o (st.off a o ha p),fun a o ha=>let ⟨o',e⟩:=st.live a o ha;⟨o',k a o' e⟩,st.rl⟩
theorem ns_apart (g:GphR σ S) {a:Addr} {m:Str→Option SV} (h:σ a=some (.ns m)):ApartR S a:=by
 refine ⟨fun q=>?_,fun q=>?_,fun r hr q=>?_⟩
 ·rw [q,g.hdx] at h;cases h
 ·rw [g.hr a q] at h;cases h
 ·rw [q,(g.hn r hr).1] at h;cases h
theorem FrA.step {A:Around} {l:List Env} (fA:FrA A σ l) (g:GphR σ S) (st:StepR σ σ' S S'):FrA A σ' l:=fA.keep fun _ m h=>⟨m,st.off _ _ h (ns_apart g h)⟩
end
section
variable (p:Params)
theorem k137_find:findIn (KP p) (.ref 137) "_find_cycle"=some (some (.ref 127)):=by rfl
theorem k127_ty:typeIn (KP p) (.ref 127)=some (.type "function"):=by rfl
theorem k127_kp:keepIn (KP p) (.ref 127)=true:=by rfl
theorem k55_exc:excIn (KP p) 55 [.type "ValueError",.type "Exception",.type "BaseException",.type "object"] "ValueError.__new__"=true:=by kernel_rfl
end
section
variable {G:GC} {A:Around} {σ:Sig} {n:Nat} {Q:SV→Sig→Prop} {S:SS}
structure PrepQ (σ σ':Sig) (S S':SS):Prop where
 ab:absG S'=absG S
 rl:∃ a,S'.rl=some a∧σ a=none
 rd:S'.rd=readyG (absG S)
 po:S'.po=S.po
 nf:S'.nf=S.nf
 st:StepR σ σ' S S'
theorem node_inj (g:GphR σ S) {a b:NR} (ha:a∈S.ns) (hb:b∈S.ns) (e:a.ni=b.ni):a.k=b.k∧a.np=b.np:=by
 have h1:=(g.hn a ha).1
 rw [e,(g.hn b hb).1] at h1
 simp at h1
 exact ⟨h1.2.1.symm,h1.2.2.1.symm⟩
theorem prep_ready {l:List Env} {L:Addr} {m:Str→Option SV} (g:GphR σ S):(S.ns.filterMap fun r=>if r.np=0 then some (PyData.int r.k) else none)=(readyG (absG S)).map PyData.int:=by
 unfold readyG absG
 rw [List.filterMap_map,List.map_filterMap]
 refine filterMap_cong fun r _=>?_
 simp only [Function.comp]
 split <;> rfl
theorem W_prepare0 {l:List Env} (R:Rm (n+3) A) (fA:FrA A σ l) (g:GphR σ S) (hrl:S.rl=none) (hcl:∀ r∈S.ns,∀ s∈r.su,s∈S.ns.map (·.k)) (hz:S.ns.length≤50) (ha:Acyc (absG S))
  (h:∀ S' σ',PrepQ σ σ' S S'→Q (.d .none) σ'):CallT G.c A (.ref 92) [.ref S.x] σ Q:=by
 refine C_fnC (f:=92) [(Str.ofString "self",.ref S.x)] (fun _=>[]) rfl ?_ R (fun F vs p=>?_) (fun L ok=>?_) (fun L=>?_) (fun L y hy=>?_) ?_ ?_ [Str.ofString "self"] rfl ?_ rfl rfl rfl
 ·rfl
 ·exact pr1 (fun v a=>⟨_,fun S=>rfl,.cons ⟨rfl,a⟩ .nil⟩) p
 ·have gf:=g.fr (m:=mkm [(Str.ofString "self",.ref S.x)]) ok
  refine T_cons (T_if (t_isCmp (t_attr (t_loc rfl <| A_get (.inl gf.hx) (.inl gf.hdx) (attrs_rl hrl) handed_none (T_none <| O_isNotNone none_none <| truth_bool ⟨nofun,fun _=>?_⟩) (k137_get _ _) (k137_dict _) (k137_f2 _) rfl))))
  have dr:=gR_dict (G:=G) gf
  refine T_nil (Nx.next (T_cons (t_asAttr (t_compT (ys:=S.ns) (fun r=>SV.ref r.ni) (fun r=>if r.np=0 then some (.int r.k) else none) (fun a ha b hb e=>?_) (t_meth m_values (t_attr (t_loc rfl <| A_get (.inl gf.hx) (.inl gf.hdx) rfl handed_ref ⟨oft_dict dr,t_a0 (C_values dr ⟨?_,om117 hz,fun C hC r hr m'=>t_asN ?_,fun D hD=>?_⟩)⟩ (k137_get _ _) (k137_dict _) (k137_f1 _) rfl)))))))
  ·simp only [SV.ref.injEq] at e
   obtain ⟨e1,e2⟩:=node_inj g ha hb e
   simp only [e1,e2]
  ·rw [show (S.ns.map fun r=>SV.ref r.ni)=S.kv.map (·.2) by unfold SS.kv;rw [List.map_map];rfl]
   exact it_vals (R.deeper _) (fun F s H=>(dr F s H).1) (by rw [gf.hd];rfl) ⟨_,_,rfl⟩
  ·have gC:∀ m',GphR (fr (fr σ L [] (mkm [(Str.ofString "self",.ref S.x)])) C [] m') S:=fun m'=>gf.fr (frC_ok hC)
   refine t_isCmp (t_attr (t_loc rfl <| gR_np (gC _) hr <| T_int <| O_eqI <| truth_bool ⟨fun hb=>⟨nofun,fun _=>?_⟩,fun hb=>⟨fun _=>?_,nofun⟩⟩))
   ·have h0:r.np=0:=eq_of_beq hb
    exact t_attr (t_loc rfl <| gR_node (gC _) hr ⟨by rw [if_pos h0];rfl,_,rfl⟩)
   ·have h0:¬(r.np=0):=beq_eq_false_iff_ne.mp hb
    exact ⟨by rw [if_neg h0];rfl,_,rfl⟩
  ·rw [upd_fr_none _ hD,prep_ready (l:=l) (L:=L) (m:=mkm []) g,←ints_ds]
   have hDσ:=(fr_none hD).2.2
   have ok:=ok.new (some (.list (intsL (readyG (absG S))))) hD
   refine t_loc rfl <| A_set ok (by rw [upd_ne _ _ (ne_dead g.hx hDσ)];exact g.hx) (by rw [upd_ne _ _ (ne_dead g.hdx hDσ)];exact g.hdx) (len900 (k:=4) (by decide)) (fun ok=>Nx.next ?_) (k137_set _) (k137_over _) (k137_t2 _) (k137_dict _)
   have st:=StepR.newReady g hDσ (readyG (absG S))
   have pq:PrepQ σ _ S { S with rl:=some D,rd:=readyG (absG S) }:=⟨rfl,⟨D,rfl,hDσ⟩,rfl,rfl,rfl,st⟩
   change FrOk (upd (upd σ D (some (.list (intsL (readyG (absG S)))))) S.dx (some (.attrs ({ S with rl:=some D,rd:=readyG (absG S) }:SS).attrs))) L [] at ok
   show TF _ _ _ (fr (upd (upd σ D (some (.list (intsL (readyG (absG S)))))) S.dx (some (.attrs ({ S with rl:=some D,rd:=readyG (absG S) }:SS).attrs))) L [] _) _
   have g2:=st.gph
   have fA2:=fA.step g st
   generalize upd (upd σ D (some (.list (intsL (readyG (absG S)))))) S.dx (some (.attrs ({ S with rl:=some D,rd:=readyG (absG S) }:SS).attrs))=σ2 at *
   have gf:=g2.fr (m:=mkm [(Str.ofString "self",.ref S.x)]) ok
   have fA3:=fun (env:Env) (hk:env.scope.kind≠.module) (hf:env.frame=some L)=>fA2.deeper (env:=env) (m:=mkm [(Str.ofString "self",SV.ref S.x)]) hk hf ok
   refine T_cons (t_as (t_inst (C:=137) (f:=127) (t_loc rfl ⟨_,rfl,isInst_obj (.inl gf.hx) (.inl gf.hdx) rfl,t_a0 (W_findcycle (n:=n) (S:={ S with rl:=some D,rd:=readyG (absG S) }) (R.deeper _) (fA3 _ (by intro h;cases h) rfl) gf hcl hz (fun _ σ3 k=>?_) (fun ring hring _=>absurd ha (ring_not_acyc hring)))⟩) (k137_get _ _) (k137_find _) (k127_ty _) (k127_kp _)))
   obtain ⟨σ4,rfl,ok,k4⟩:=keep_back ok k
   refine t_st (Nx.next (T_cons (T_if (t_isVal (t_loc rfl <| truth_none ⟨nofun,fun _=>T_nil (Nx.next (T_nil ⟨σ4,_,rfl,ok,h _ σ4 ⟨pq.ab,pq.rl,pq.rd,pq.po,pq.nf,pq.st.keepS k4⟩⟩))⟩)))))
 ·rfl
 ·simp at hy;rcases hy with rfl;exact .inl rfl
 ·decide
 ·decide
 ·decide
theorem W_prepareR {l:List Env} (R:Rm (n+3) A) (fA:FrA A σ l) (g:GphR σ S) (hrl:S.rl=none) (hcl:∀ r∈S.ns,∀ s∈r.su,s∈S.ns.map (·.k)) (hz:S.ns.length≤50) (ha:¬Acyc (absG S)):CodeR G.c 55 A (.ref 92) [.ref S.x] σ (fun σ'=>∃ S',PrepQ σ σ' S S'):=by
 refine D_fnR (f:=92) (l:=l) [(Str.ofString "self",.ref S.x)] (fun _=>[]) rfl ?_ R (fun F vs p=>?_) (fun L ok=>r_fit [(Str.ofString "self",.ref S.x)] ⟨rfl,trivial⟩ ?_) (fun σ1 ⟨S',pq⟩=>fA.step g pq.st) (fun L=>?_) (fun L y hy=>?_) ?_ ?_ rfl rfl rfl
 ·rfl
 ·exact pr1 (fun v a=>⟨_,fun S=>rfl,.cons ⟨rfl,a⟩ .nil⟩) p
 ·have gf:=g.fr (m:=mkm [(Str.ofString "self",.ref S.x)]) ok
  refine R_cons1 (T_if (t_isCmp (t_attr (t_loc rfl <| A_get (.inl gf.hx) (.inl gf.hdx) (attrs_rl hrl) handed_none (T_none <| O_isNotNone none_none <| truth_bool ⟨nofun,fun _=>?_⟩) (k137_get _ _) (k137_dict _) (k137_f2 _) rfl))))
  have dr:=gR_dict (G:=G) gf
  refine T_nil (R_cons1 (t_asAttr (t_compT (ys:=S.ns) (fun r=>SV.ref r.ni) (fun r=>if r.np=0 then some (.int r.k) else none) (fun a ha b hb e=>?_) (t_meth m_values (t_attr (t_loc rfl <| A_get (.inl gf.hx) (.inl gf.hdx) rfl handed_ref ⟨oft_dict dr,t_a0 (C_values dr ⟨?_,om117 hz,fun C hC r hr m'=>t_asN ?_,fun D hD=>?_⟩)⟩ (k137_get _ _) (k137_dict _) (k137_f1 _) rfl))))))
  ·simp only [SV.ref.injEq] at e
   obtain ⟨e1,e2⟩:=node_inj g ha hb e
   simp only [e1,e2]
  ·rw [show (S.ns.map fun r=>SV.ref r.ni)=S.kv.map (·.2) by unfold SS.kv;rw [List.map_map];rfl]
   exact it_vals (R.deeper _) (fun F s H=>(dr F s H).1) (by rw [gf.hd];rfl) ⟨_,_,rfl⟩
  ·have gC:∀ m',GphR (fr (fr σ L [] (mkm [(Str.ofString "self",.ref S.x)])) C [] m') S:=fun m'=>gf.fr (frC_ok hC)
   refine t_isCmp (t_attr (t_loc rfl <| gR_np (gC _) hr <| T_int <| O_eqI <| truth_bool ⟨fun hb=>⟨nofun,fun _=>?_⟩,fun hb=>⟨fun _=>?_,nofun⟩⟩))
   ·have h0:r.np=0:=eq_of_beq hb
    exact t_attr (t_loc rfl <| gR_node (gC _) hr ⟨by rw [if_pos h0];rfl,_,rfl⟩)
   ·have h0:¬(r.np=0):=beq_eq_false_iff_ne.mp hb
    exact ⟨by rw [if_neg h0];rfl,_,rfl⟩
  ·rw [upd_fr_none _ hD,prep_ready (l:=l) (L:=L) (m:=mkm []) g,←ints_ds]
   have hDσ:=(fr_none hD).2.2
   have ok:=ok.new (some (.list (intsL (readyG (absG S))))) hD
   refine t_loc rfl <| A_set ok (by rw [upd_ne _ _ (ne_dead g.hx hDσ)];exact g.hx) (by rw [upd_ne _ _ (ne_dead g.hdx hDσ)];exact g.hdx) (len900 (k:=4) (by decide)) (fun ok=>?_) (k137_set _) (k137_over _) (k137_t2 _) (k137_dict _)
   have st:=StepR.newReady g hDσ (readyG (absG S))
   have pq:PrepQ σ _ S { S with rl:=some D,rd:=readyG (absG S) }:=⟨rfl,⟨D,rfl,hDσ⟩,rfl,rfl,rfl,st⟩
   change FrOk (upd (upd σ D (some (.list (intsL (readyG (absG S)))))) S.dx (some (.attrs ({ S with rl:=some D,rd:=readyG (absG S) }:SS).attrs))) L [] at ok
   show TR _ _ _ _ (fr (upd (upd σ D (some (.list (intsL (readyG (absG S)))))) S.dx (some (.attrs ({ S with rl:=some D,rd:=readyG (absG S) }:SS).attrs))) L [] _) _
   have g2:=st.gph
   have fA2:=fA.step g st
   generalize upd (upd σ D (some (.list (intsL (readyG (absG S)))))) S.dx (some (.attrs ({ S with rl:=some D,rd:=readyG (absG S) }:SS).attrs))=σ2 at *
   have gf:=g2.fr (m:=mkm [(Str.ofString "self",.ref S.x)]) ok
   have fA3:=fun (env:Env) (hk:env.scope.kind≠.module) (hf:env.frame=some L)=>fA2.deeper (env:=env) (m:=mkm [(Str.ofString "self",SV.ref S.x)]) hk hf ok
   refine R_cons1 (t_as (t_inst (C:=137) (f:=127) (t_loc rfl ⟨_,rfl,isInst_obj (.inl gf.hx) (.inl gf.hdx) rfl,t_a0 (W_findcycle (n:=n) (S:={ S with rl:=some D,rd:=readyG (absG S) }) (R.deeper _) (fA3 _ (by intro h;cases h) rfl) gf hcl hz (fun hac=>absurd hac ha) (fun ring hring hrl60 σ3 k=>?_))⟩) (k137_get _ _) (k137_find _) (k127_ty _) (k127_kp _)))
   obtain ⟨σ4,rfl,ok,k4⟩:=keep_back ok k
   obtain ⟨rn,rl,rfl,_⟩:=hring.ex
   refine t_st (R_cons2 (R_if (t_isVal (t_loc rfl <| truth_list .d ?_ ⟨fun _=>?_,fun hb=>?_⟩))))
   ·simp at hrl60 ⊢;exact om121 hrl60
   ·refine R_cons2 (R_raise (C:=55) PySem.F.excBase_ValueError (R.deeper _).hh rfl (k55_exc _) (T_spl_cons (T_joined (T_str (T_spl_cons (t_loc rfl (T_spl_nil ⟨by simp,?_⟩)) rfl))) rfl))
    exact ⟨σ4,_,rfl,ok,_,pq.ab,pq.rl,pq.rd,pq.po,pq.nf,pq.st.keepS k4⟩
   ·simp at hb
 ·rfl
 ·simp at hy;rcases hy with rfl;exact .inl rfl
 ·decide
 ·decide
end
end Mine
end
section
namespace Mine
noncomputable def mkG (V:List Int) (np:Int→Int) (su:Int→List Int):AG:=V.map fun k=>⟨k,np k,su k⟩
theorem mkG_find {V:List Int} {np:Int→Int} {su:Int→List Int} {k:Int} (h:k∈V):(mkG V np su).find? (fun r=>r.k == k)=some ⟨k,np k,su k⟩:=by
 unfold mkG
 induction V with
 | nil=>cases h
 | cons a r ih =>
  rw [List.map_cons,List.find?_cons]
  by_cases q:a=k
  ·subst q;simp
  ·rw [show (({ k:=a,np:=np a,su:=su a }:GN).k == k)=false by simpa using q]
   exact ih ((List.mem_cons.mp h).resolve_left (Ne.symm q))
theorem mkG_np {V:List Int} {np:Int→Int} {su:Int→List Int} {k:Int} (h:k∈V):npOf (mkG V np su) k=np k:=by unfold npOf;rw [mkG_find h];rfl
theorem mkG_su {V:List Int} {np:Int→Int} {su:Int→List Int} {k:Int} (h:k∈V):suOf (mkG V np su) k=su k:=by unfold suOf;rw [mkG_find h];rfl
noncomputable def setF (np:Int→Int) (k:Int) (f:Int→Int):Int→Int:=fun x=>if x=k then f (np x) else np x
theorem mkG_gNp (V:List Int) (np:Int→Int) (su:Int→List Int) (k:Int) (f:Int→Int):gNp (mkG V np su) k f=mkG V (setF np k f) su:=by
 unfold gNp mkG setF
 rw [List.map_map]
 refine List.map_congr_left fun x _=>?_
 by_cases q:x=k <;> simp [q]
theorem mkG_cong {V:List Int} {np np':Int→Int} {su:Int→List Int} (h:∀ k∈V,np k=np' k):mkG V np su=mkG V np' su:=List.map_congr_left fun x hx=>by rw [h x hx]
theorem mkG_out (V:List Int) (su:Int→List Int):∀ (ks:List Int) (np:Int→Int),gOut (mkG V np su) ks=mkG V (fun x=>if x∈ks then -1 else np x) su
 | [],np=>by simp [gOut]
 | k :: r,np=>by
  have ih:=mkG_out V su r (setF np k fun _=>-1)
  unfold gOut at ih ⊢
  rw [List.foldl_cons,mkG_gNp,ih]
  refine mkG_cong fun x _=>?_
  unfold setF
  by_cases q:x=k
  ·subst q;simp
  ·simp [q]
theorem mkG_ready (V:List Int) (np:Int→Int) (su:Int→List Int):readyG (mkG V np su)=V.filter fun k=>decide (np k=0):=by
 unfold readyG mkG
 rw [List.filterMap_map]
 induction V with
 | nil=>rfl
 | cons a r ih =>
  rw [List.filterMap_cons,List.filter_cons]
  by_cases q:np a=0 <;> simp [q,ih]
theorem mkG_keys (V:List Int) (np:Int→Int) (su:Int→List Int):(mkG V np su).map (·.k)=V:=by
 unfold mkG;rw [List.map_map];simp [Function.comp_def]
theorem mkG_has {V:List Int} {np:Int→Int} {su:Int→List Int} {k:Int}:gHas (mkG V np su) k=true↔k∈V:=by
 unfold gHas mkG
 rw [List.any_map,List.any_eq_true]
 constructor
 ·rintro ⟨r,hr,e⟩
  have:r=k:=by simpa using e
  exact this▸hr
 ·intro h;exact ⟨k,h,by simp⟩
theorem mkG_of {g:AG} (h:(g.map (·.k)).Nodup):g=mkG (g.map (·.k)) (npOf g) (suOf g):=by
 unfold mkG
 rw [List.map_map]
 conv=>lhs;rw [←List.map_id g]
 refine List.map_congr_left fun r hr=>?_
 have hf:g.find? (fun q=>q.k == r.k)=some r:=by
  induction g with
  | nil=>cases hr
  | cons q t ih =>
   rw [List.map_cons,List.nodup_cons] at h
   rw [List.find?_cons]
   rcases List.mem_cons.mp hr with e | e
   ·subst e;simp
   ·have:q.k≠r.k:=fun z=>h.1 (z▸List.mem_map.mpr ⟨r,e,rfl⟩)
    rw [show (q.k == r.k)=false by simpa using this]
    exact ih h.2 e
 simp only [id,Function.comp,npOf,suOf,hf,Option.map_some,Option.getD_some]
theorem relS_mk {V:List Int} {np:Int→Int} {su:Int→List Int} {rd:List Int} {s:Int} (hs:s∈V):relS (mkG V np su,rd) s=(mkG V (setF np s (· - 1)) su,if np s=1 then rd++[s] else rd):=by
 unfold relS
 simp only [mkG_gNp]
 rw [mkG_np hs]
 congr 1
 have:(setF np s (· - 1)) s=np s - 1:=by unfold setF;simp
 rw [this]
 by_cases q:np s=1
 ·rw [if_pos (om40 q),if_pos q]
 ·rw [if_neg (om45 q),if_neg q]
theorem rel_all {V:List Int} {su:Int→List Int}:∀ (ss:List Int) (np:Int→Int) (rd:List Int),(∀ s∈ss,s∈V)→(∀ s∈ss,((ss.count s:Nat):Int)≤np s)→rd.Nodup→(∀ s∈rd,s∉ss) →
  ∃ rd',ss.foldl relS (mkG V np su,rd)=(mkG V (fun x=>np x - ((ss.count x:Nat):Int)) su,rd')∧rd'.Nodup∧∀ x,x∈rd'↔x∈rd∨(x∈ss∧np x=((ss.count x:Nat):Int)):=fun l=>by
 induction l with
 | nil=>exact fun np rd _ _ hn _=>⟨rd,by simp,hn,fun x=>by simp⟩
 | cons s r ih =>
  intro np rd hV hc hn hd
  rw [List.foldl_cons,relS_mk (hV s (.head _))]
  have hs1:((s :: r).count s:Nat)=r.count s+1:=by simp
  have hcs:=hc s (.head _)
  rw [hs1] at hcs
  have hne:∀ x,x≠s→(s :: r).count x=r.count x:=fun x hx=>List.count_cons_of_ne (Ne.symm hx)
  have hc':∀ x∈r,((r.count x:Nat):Int)≤setF np s (· - 1) x:=fun x hx=>by
   dsimp only [setF]
   by_cases q:x=s
   ·subst q;rw [if_pos rfl];exact om130 hcs
   ·rw [if_neg q,←hne x q];exact hc x (.tail _ hx)
  by_cases q1:np s=1
  ·rw [if_pos q1]
   have hr0:r.count s=0:=by exact om131 hcs q1
   have hsr:s∉r:=fun h=>by have:=List.count_pos_iff.mpr h;exact om89 hr0 this
   have hsd:s∉rd:=fun h=>hd s h (.head _)
   obtain ⟨rd',e,n',m'⟩:=ih (setF np s (· - 1)) (rd++[s]) (fun x hx=>hV x (.tail _ hx)) hc'
    (List.nodup_append.mpr ⟨hn,by simp,fun a ha b hb z=>by rw [List.mem_singleton] at hb;subst hb;subst z;exact hsd ha⟩)
    (fun x hx=>by
     rcases List.mem_append.mp hx with hx | hx
     ·exact fun h=>hd x hx (.tail _ h)
     ·rw [List.mem_singleton] at hx;subst hx;exact hsr)
   refine ⟨rd',?_,n',fun x=>?_⟩
   ·rw [e];congr 1
    refine mkG_cong fun x _=>?_
    dsimp only [setF]
    by_cases q:x=s
    ·subst q;rw [if_pos rfl,hs1];exact om55
    ·rw [if_neg q,hne x q]
   ·rw [m' x,List.mem_append,List.mem_singleton,List.mem_cons]
    dsimp only [setF]
    by_cases q:x=s
    ·subst q
     rw [hs1]
     constructor
     ·rintro _;exact .inr ⟨.inl rfl,om66 q1 hr0⟩
     ·rintro _;exact .inl (.inr rfl)
    ·rw [hne x q,if_neg q]
     constructor
     ·rintro ((h | h) | ⟨h1,h2⟩)
      ·exact .inl h
      ·exact absurd h q
      ·exact .inr ⟨.inr h1,h2⟩
     ·rintro (h | ⟨h1,h2⟩)
      ·exact .inl (.inl h)
      ·exact .inr ⟨h1.resolve_left q,h2⟩
  ·rw [if_neg q1]
   obtain ⟨rd',e,n',m'⟩:=ih (setF np s (· - 1)) rd (fun x hx=>hV x (.tail _ hx)) hc' hn (fun x hx h=>hd x hx (.tail _ h))
   refine ⟨rd',?_,n',fun x=>?_⟩
   ·rw [e];congr 1
    refine mkG_cong fun x _=>?_
    dsimp only [setF]
    by_cases q:x=s
    ·subst q;rw [if_pos rfl,hs1];exact om55
    ·rw [if_neg q,hne x q]
   ·rw [m' x,List.mem_cons]
    dsimp only [setF]
    by_cases q:x=s
    ·subst q
     rw [hs1,if_pos rfl]
     constructor
     ·rintro (h | ⟨h1,h2⟩)
      ·exact .inl h
      ·exact .inr ⟨.inl rfl,om57 h2⟩
     ·rintro (h | ⟨h1,h2⟩)
      ·exact .inl h
      ·refine .inr ⟨?_,om60 h2⟩
       refine List.count_pos_iff.mp ?_
       omega
    ·rw [hne x q,if_neg q]
     constructor
     ·rintro (h | ⟨h1,h2⟩)
      ·exact .inl h
      ·exact .inr ⟨.inr h1,h2⟩
     ·rintro (h | ⟨h1,h2⟩)
      ·exact .inl h
      ·exact .inr ⟨h1.resolve_left q,h2⟩
end Mine
end
section
namespace Mine
structure SG (V:List Int) (P su:Int→List Int):Prop where
 vn:V.Nodup
 cnt:∀ k∈V,∀ n,(su k).count n=(P n).count k
 cl:∀ n,P n≠[]→n∈V
 pv:∀ n,∀ p∈P n,p∈V
structure KI (V:List Int) (P:Int→List Int) (Out D rd:List Int):Prop where
 dO:∀ k∈D,k∈Out
 oV:∀ k∈Out,k∈V
 nd:rd.Nodup
 rdi:∀ x,x∈rd↔x∈V∧x∉Out∧∀ p∈P x,p∈D
 oP:∀ x∈Out,∀ p∈P x,p∈D
noncomputable def npI (P:Int→List Int) (Out D:List Int) (k:Int):Int:=if k∈D then -2 else if k∈Out then -1 else (((P k).filter fun p=>decide (p∉D)).length:Nat)
theorem npI_cong {P:Int→List Int} {Out Out' D D':List Int} (h1:∀ x,x∈Out↔x∈Out') (h2:∀ x,x∈D↔x∈D'):npI P Out D=npI P Out' D':=by
 funext k
 unfold npI
 simp only [h1,h2]
theorem KI.cong {V:List Int} {P:Int→List Int} {Out Out' D D' rd:List Int} (h:KI V P Out D rd) (h1:∀ x,x∈Out↔x∈Out') (h2:∀ x,x∈D↔x∈D'):KI V P Out' D' rd :=
 ⟨fun k hk=>(h1 k).mp (h.dO k ((h2 k).mpr hk)),fun k hk=>h.oV k ((h1 k).mpr hk),h.nd,fun x=>by rw [h.rdi x];simp only [h1,h2],fun x hx p hp=>(h2 p).mp (h.oP x ((h1 x).mpr hx) p hp)⟩
theorem filt_count (D:List Int) (k:Int) (hk:k∉D):∀ l:List Int,(l.filter fun p=>decide (p∉D)).length=(l.filter fun p=>decide (p∉k :: D)).length+l.count k
 | []=>rfl
 | a :: r=>by
  have ih:=filt_count D k hk r
  rw [List.filter_cons,List.filter_cons,List.count_cons]
  have e2:decide (a∉k :: D)=(!decide (a=k) && decide (a∉D)):=by
   by_cases q:a=k <;> by_cases d:a∈D <;> simp [q,d]
  have e3:(a == k)=decide (a=k):=by
   by_cases q:a=k <;> simp [q]
  rw [e2,e3]
  by_cases q:a=k
  ·subst q
   simp only [decide_true,Bool.not_true,Bool.false_and,Bool.false_eq_true,if_false,if_true,hk,not_false_eq_true,List.length_cons,ih]
   exact om148
  ·by_cases d:a∈D
   ·simp only [q,d,not_true_eq_false,decide_false,Bool.and_false,Bool.false_eq_true,if_false,ih]
    exact om167
   ·simp only [q,d,not_false_eq_true,decide_true,decide_false,Bool.not_false,Bool.true_and,Bool.false_eq_true,if_true,if_false,List.length_cons,ih]
    exact om147
theorem filt_nil {D l:List Int}:(l.filter fun p=>decide (p∉D)).length=0↔∀ p∈l,p∈D:=by
 rw [List.length_eq_zero_iff,List.filter_eq_nil_iff]
 simp
section
variable {V:List Int} {P su:Int→List Int} {Out D rd:List Int}
theorem SG.mem (G:SG V P su) {k n:Int} (hk:k∈V):n∈su k↔k∈P n:=by
 rw [←List.count_pos_iff,←List.count_pos_iff,G.cnt k hk n]
theorem SG.suV (G:SG V P su) {k n:Int} (hk:k∈V) (hn:n∈su k):n∈V:=G.cl n fun e=>by
 have:=(G.mem hk).mp hn
 rw [e] at this;cases this
theorem KI.done1 (G:SG V P su) (h:KI V P Out D rd) {k:Int} (hk:k∈Out) (hd:k∉D) :
  ∃ rd',done1 (mkG V (npI P Out D) su,rd) k=(mkG V (npI P Out (k :: D)) su,rd')∧KI V P Out (k :: D) rd'∧∀ x∈rd,x∈rd':=by
 have hkV:=h.oV k hk
 have out:∀ s,k∈P s→s∉Out:=fun s hs ho=>hd (h.oP s ho k hs)
 unfold Mine.done1
 simp only [mkG_gNp]
 rw [mkG_su hkV]
 have hnp:∀ s,k∈P s→setF (npI P Out D) k (fun _=>-2) s=(((P s).filter fun p=>decide (p∉D)).length:Nat):=fun s hs=>by
  have ho:=out s hs
  have hs':s≠k:=fun q=>by subst q;exact ho hk
  unfold setF npI
  rw [if_neg hs',if_neg (fun q=>ho (h.dO s q)),if_neg ho]
 obtain ⟨rd',e,n',m'⟩:=rel_all (V:=V) (su:=su) (su k) (setF (npI P Out D) k fun _=>-2) rd (fun s hs=>G.suV hkV hs) (fun s hs=>by
   have hs':=(G.mem hkV).mp hs
   rw [hnp s hs',G.cnt k hkV s,filt_count D k hd];exact om149) h.nd (fun s hs hs2=>by
   have hs':=(G.mem hkV).mp hs2
   exact hd (((h.rdi s).mp hs).2.2 k hs'))
 have npk:∀ x∈V,setF (npI P Out D) k (fun _=>-2) x - (((su k).count x:Nat):Int)=npI P Out (k :: D) x:=fun x hx=>by
  rw [G.cnt k hkV x]
  by_cases q:k∈P x
  ·rw [hnp x q]
   have ho:=out x q
   have hs':x≠k:=fun q=>by subst q;exact ho hk
   unfold npI
   rw [if_neg (by rw [List.mem_cons];exact fun z=>z.elim hs' fun z=>ho (h.dO x z)),if_neg ho,filt_count D k hd];exact om141
  ·rw [show (P x).count k=0 from List.count_eq_zero.mpr q]
   by_cases z:x=k
   ·subst z
    have a1:setF (npI P Out D) x (fun _=>-2) x=-2:=by unfold setF;rw [if_pos rfl]
    have a2:npI P Out (x :: D) x=-2:=by unfold npI;rw [if_pos (.head _)]
    rw [a1,a2];rfl
   ·have a1:setF (npI P Out D) k (fun _=>-2) x=npI P Out D x:=by unfold setF;rw [if_neg z]
    have a2:npI P Out (k :: D) x=npI P Out D x:=by
     unfold npI
     rw [filt_count D k hd,show (P x).count k=0 from List.count_eq_zero.mpr q]
     simp only [List.mem_cons,z,false_or,Nat.add_zero]
    rw [a1,a2];simp
 refine ⟨rd',by rw [e,mkG_cong npk],⟨fun x hx=>?_,h.oV,n',fun x=>?_,fun x hx p hp=>.tail _ (h.oP x hx p hp)⟩,fun x hx=>(m' x).mpr (.inl hx)⟩
 ·rcases List.mem_cons.mp hx with rfl | hx
  ·exact hk
  ·exact h.dO x hx
 ·rw [m' x]
  constructor
  ·rintro (hx | ⟨h1,h2⟩)
   ·obtain ⟨a,b,c⟩:=(h.rdi x).mp hx
    exact ⟨a,b,fun p hp=>.tail _ (c p hp)⟩
   ·have hs':=(G.mem hkV).mp h1
    refine ⟨G.suV hkV h1,out x hs',filt_nil.mp ?_⟩
    rw [hnp x hs',G.cnt k hkV x,filt_count D k hd] at h2
    exact om142 h2
  ·rintro ⟨a,b,c⟩
   by_cases q:k∈P x
   ·refine .inr ⟨(G.mem hkV).mpr q,?_⟩
    rw [hnp x q,G.cnt k hkV x,filt_count D k hd,filt_nil.mpr c];simp
   ·refine .inl ((h.rdi x).mpr ⟨a,b,fun p hp=>?_⟩)
    rcases List.mem_cons.mp (c p hp) with z | z
    ·subst z;exact absurd hp q
    ·exact z
theorem KI.doneS (G:SG V P su):∀ (ks:List Int) {D rd:List Int},KI V P Out D rd→ks.Nodup→(∀ k∈ks,k∈Out∧k∉D) →
  ∃ rd',Mine.doneS (mkG V (npI P Out D) su,rd) ks=(mkG V (npI P Out (ks.reverse++D)) su,rd')∧KI V P Out (ks.reverse++D) rd'∧∀ x∈rd,x∈rd'
 | [],D,rd,h,_,_=>⟨rd,rfl,h,fun _ h=>h⟩
 | k :: r,D,rd,h,hn,hk=>by
  rw [List.nodup_cons] at hn
  obtain ⟨rd1,e1,h1,m1⟩:=h.done1 G (hk k (.head _)).1 (hk k (.head _)).2
  obtain ⟨rd2,e2,h2,m2⟩:=KI.doneS G r h1 hn.2 fun x hx=>⟨(hk x (.tail _ hx)).1,fun z=>by
   rcases List.mem_cons.mp z with z | z
   ·subst z;exact hn.1 hx
   ·exact (hk x (.tail _ hx)).2 z⟩
  refine ⟨rd2,?_,?_,fun x hx=>m2 x (m1 x hx)⟩
  ·show Mine.doneS (Mine.done1 _ k) r=_
   rw [e1,e2,List.reverse_cons,List.append_assoc];rfl
  ·rw [List.reverse_cons,List.append_assoc];exact h2
theorem KI.handed (G:SG V P su) (h:KI V P Out D rd) {ks:List Int} (hn:ks.Nodup) (hk:∀ k∈ks,k∈Out∧k∉D) {i:Nat} {k:Int} (hi:ks[i]?=some k) :
  npOf (Mine.doneS (mkG V (npI P Out D) su,rd) (ks.take i)).1 k=-1:=by
 have hm:=List.mem_of_getElem? hi
 obtain ⟨rd',e,_⟩:=KI.doneS G (ks.take i) h (hn.sublist (List.take_sublist _ _)) fun x hx=>hk x (List.mem_of_mem_take hx)
 rw [e]
 show npOf (mkG V _ su) k=-1
 rw [mkG_np (h.oV k (hk k hm).1)]
 unfold npI
 rw [if_neg,if_pos (hk k hm).1]
 rw [List.mem_append,List.mem_reverse]
 rintro (z | z)
 ·obtain ⟨j,hj⟩:=List.mem_iff_getElem?.mp z
  obtain ⟨hi',ei⟩:=List.getElem?_eq_some_iff.mp hi
  rw [List.getElem?_take] at hj
  split at hj
  ·obtain ⟨hj',ej⟩:=List.getElem?_eq_some_iff.mp hj
   rename_i hlt
   have:=List.pairwise_iff_getElem.mp hn j i hj' hi' hlt
   exact this (ej.trans ei.symm)
  ·cases hj
 ·exact (hk k hm).2 z
theorem KI.out (h:KI V P Out D rd):gOut (mkG V (npI P Out D) su) rd=mkG V (npI P (Out++rd) D) su∧KI V P (Out++rd) D []:=by
 refine ⟨?_,⟨fun k hk=>List.mem_append_left _ (h.dO k hk),fun k hk=>?_,List.nodup_nil,fun x=>?_,fun x hx p hp=>?_⟩⟩
 ·rw [mkG_out]
  refine mkG_cong fun x _=>?_
  unfold npI
  by_cases q:x∈rd
  ·have:=(h.rdi x).mp q
   rw [if_pos q,if_neg (fun z=>this.2.1 (h.dO x z)),if_pos (List.mem_append_right _ q)]
  ·rw [if_neg q]
   simp [q]
 ·rcases List.mem_append.mp hk with z | z
  ·exact h.oV k z
  ·exact ((h.rdi k).mp z).1
 ·constructor
  ·intro z;cases z
  ·rintro ⟨a,b,c⟩
   exact absurd (List.mem_append_right _ ((h.rdi x).mpr ⟨a,fun z=>b (List.mem_append_left _ z),c⟩)) b
 ·rcases List.mem_append.mp hx with z | z
  ·exact h.oP x z p hp
  ·exact ((h.rdi x).mp z).2.2 p hp
theorem KI.start (G:SG V P su):KI V P [] [] (V.filter fun k=>decide (P k=[])):=by
 refine ⟨nofun,nofun,G.vn.sublist List.filter_sublist,fun x=>?_,nofun⟩
 rw [List.mem_filter]
 constructor
 ·rintro ⟨a,b⟩
  have:P x=[]:=by simpa using b
  exact ⟨a,nofun,fun p hp=>by rw [this] at hp;cases hp⟩
 ·rintro ⟨a,_,c⟩
  refine ⟨a,?_⟩
  have:P x=[]:=List.eq_nil_iff_forall_not_mem.mpr fun p hp=>by cases c p hp
  simpa using this
theorem KI.start_rd:readyG (mkG V (npI P [] []) su)=V.filter fun k=>decide (P k=[]):=by
 rw [mkG_ready]
 refine List.filter_congr fun x _=>?_
 unfold npI
 simp [List.eq_nil_iff_forall_not_mem]
end
end Mine
end
section
namespace Mine
theorem gHas_mem {g:AG} {k:Int}:gHas g k=true↔k∈g.map (·.k):=by
 unfold gHas
 rw [List.any_eq_true,List.mem_map]
 constructor
 ·rintro ⟨r,hr,e⟩;exact ⟨r,hr,by simpa using e⟩
 ·rintro ⟨r,hr,e⟩;exact ⟨r,hr,by simpa using e⟩
structure GI (g:AG) (P Q:Int→List Int):Prop where
 keys:(g.map (·.k)).Nodup
 np:∀ r∈g,r.np=((Q r.k).length:Nat)
 su:∀ r∈g,∀ n,r.su.count n=(P n).count r.k
 cl:∀ n,P n≠[]→gHas g n=true
 ql:∀ n,Q n≠[]→gHas g n=true
 pv:∀ n,∀ p∈P n,gHas g p=true
theorem gGet_mem {g:AG} {k x:Int}:gHas (gGet g k) x=true↔gHas g x=true∨x=k:=by
 unfold gGet
 by_cases h:gHas g k=true
 ·rw [if_pos h]
  constructor
  ·exact .inl
  ·rintro (q | q)
   ·exact q
   ·subst q;exact h
 ·rw [if_neg h,gHas_mem,gHas_mem,List.map_append,List.mem_append];simp
theorem gNp_mem {g:AG} {k x:Int} {f:Int→Int}:gHas (gNp g k f) x=true↔gHas g x=true:=by
 rw [gHas_mem,gHas_mem]
 unfold gNp
 rw [List.map_map,show ((fun r:GN=>r.k) ∘ fun r:GN=>if r.k=k then { r with np:=f r.np } else r)=fun r=>r.k from funext fun r=>by simp only [Function.comp];split <;> rfl]
theorem gSu_mem {g:AG} {k x y:Int}:gHas (gSu g k y) x=true↔gHas g x=true:=by
 rw [gHas_mem,gHas_mem]
 unfold gSu
 rw [List.map_map,show ((fun r:GN=>r.k) ∘ fun r:GN=>if r.k=k then { r with su:=r.su++[y] } else r)=fun r=>r.k from funext fun r=>by simp only [Function.comp];split <;> rfl]
theorem gPred_mem {g:AG} {node p x:Int}:gHas (gPred node g p) x=true↔gHas g x=true∨x=p:=by
 unfold gPred;rw [gSu_mem,gGet_mem]
theorem gPreds_mem {node x:Int}:∀ {ps:List Int} {g:AG},gHas (ps.foldl (gPred node) g) x=true↔gHas g x=true∨x∈ps
 | [],g=>by simp
 | p :: r,g=>by rw [List.foldl_cons,gPreds_mem,gPred_mem,List.mem_cons,or_assoc]
theorem gAdd_mem {g:AG} {node x:Int} {ps:List Int}:gHas (gAdd g node ps) x=true↔gHas g x=true∨x=node∨x∈ps:=by
 unfold gAdd;rw [gPreds_mem,gNp_mem,gGet_mem,or_assoc]
section
variable {g:AG} {P Q:Int→List Int}
theorem GI.nil:GI [] (fun _=>[]) (fun _=>[]):=⟨List.nodup_nil,nofun,nofun,fun _ h=>absurd rfl h,fun _ h=>absurd rfl h,nofun⟩
theorem GI.get (h:GI g P Q) (k:Int):GI (gGet g k) P Q:=by
 by_cases q:gHas g k=true
 ·unfold gGet;rw [if_pos q];exact h
 ·have hk:k∉g.map (·.k):=fun z=>q (gHas_mem.mpr z)
  have e:gGet g k=g++[⟨k,0,[]⟩]:=by unfold gGet;rw [if_neg q]
  rw [e]
  have hm:∀ x,gHas g x=true→gHas (g++[⟨k,0,[]⟩]) x=true:=fun x hx=>by rw [←e];exact gGet_mem.mpr (.inl hx)
  refine ⟨?_,fun r hr=>?_,fun r hr n=>?_,fun n hn=>hm n (h.cl n hn),fun n hn=>hm n (h.ql n hn),fun n p hp=>hm p (h.pv n p hp)⟩
  ·rw [List.map_append]
   refine List.nodup_append.mpr ⟨h.keys,by simp,fun a ha b hb z=>?_⟩
   simp at hb;subst hb;subst z;exact hk ha
  ·rcases List.mem_append.mp hr with hr | hr
   ·exact h.np r hr
   ·rw [List.mem_singleton] at hr;subst hr
    have:Q k=[]:=Classical.byContradiction fun z=>q (h.ql k z)
    simp [this]
  ·rcases List.mem_append.mp hr with hr | hr
   ·exact h.su r hr n
   ·rw [List.mem_singleton] at hr;subst hr
    have:(P n).count k=0:=List.count_eq_zero.mpr fun z=>q (h.pv n k z)
    simp [this]
theorem GI.addNp (h:GI g P Q) {k:Int} (hk:gHas g k=true) (hq:Q k=[]) (ps:List Int):GI (gNp g k (·+ps.length)) P (fun n=>if n=k then ps else Q n):=by
 have ek:(gNp g k (·+(ps.length:Int))).map (·.k)=g.map (·.k):=by
  unfold gNp
  rw [List.map_map,show ((fun r:GN=>r.k) ∘ fun r:GN=>if r.k=k then { r with np:=r.np+(ps.length:Int) } else r)=fun r=>r.k from funext fun r=>by simp only [Function.comp];split <;> rfl]
 refine ⟨by rw [ek];exact h.keys,fun r hr=>?_,fun r hr n=>?_,fun n hn=>gNp_mem.mpr (h.cl n hn),fun n hn=>gNp_mem.mpr ?_,fun n p hp=>gNp_mem.mpr (h.pv n p hp)⟩
 ·obtain ⟨r0,hr0,rfl⟩:=List.mem_map.mp hr
  by_cases q:r0.k=k
  ·rw [if_pos q]
   dsimp only
   rw [if_pos q,h.np r0 hr0,q,hq];simp
  ·rw [if_neg q,if_neg q];exact h.np r0 hr0
 ·obtain ⟨r0,hr0,rfl⟩:=List.mem_map.mp hr
  by_cases q:r0.k=k
  ·rw [if_pos q];exact h.su r0 hr0 n
  ·rw [if_neg q];exact h.su r0 hr0 n
 ·by_cases q:n=k
  ·subst q;exact hk
  ·rw [if_neg q] at hn;exact h.ql n hn
theorem GI.addSu (h:GI g P Q) {p node:Int} (hp:gHas g p=true) (hn:gHas g node=true):GI (gSu g p node) (fun n=>if n=node then P node++[p] else P n) Q:=by
 have ek:(gSu g p node).map (·.k)=g.map (·.k):=by
  unfold gSu
  rw [List.map_map,show ((fun r:GN=>r.k) ∘ fun r:GN=>if r.k=p then { r with su:=r.su++[node] } else r)=fun r=>r.k from funext fun r=>by simp only [Function.comp];split <;> rfl]
 refine ⟨by rw [ek];exact h.keys,fun r hr=>?_,fun r hr n=>?_,fun n hz=>gSu_mem.mpr ?_,fun n hz=>gSu_mem.mpr (h.ql n hz),fun n x hx=>gSu_mem.mpr ?_⟩
 ·obtain ⟨r0,hr0,rfl⟩:=List.mem_map.mp hr
  by_cases q:r0.k=p
  ·rw [if_pos q];exact h.np r0 hr0
  ·rw [if_neg q];exact h.np r0 hr0
 ·obtain ⟨r0,hr0,rfl⟩:=List.mem_map.mp hr
  have e:=h.su r0 hr0 n
  by_cases q:r0.k=p
  ·rw [if_pos q]
   dsimp only
   rw [List.count_append,e]
   by_cases z:n=node
   ·subst z;rw [if_pos rfl,List.count_append,q];simp
   ·rw [if_neg z]
    have:List.count n [node]=0:=List.count_eq_zero.mpr (by simpa using z)
    rw [this];rfl
  ·rw [if_neg q,e]
   by_cases z:n=node
   ·subst z;rw [if_pos rfl,List.count_append]
    have:List.count r0.k [p]=0:=List.count_eq_zero.mpr (by simpa using q)
    rw [this];rfl
   ·rw [if_neg z]
 ·by_cases z:n=node
  ·subst z;exact hn
  ·rw [if_neg z] at hz;exact h.cl n hz
 ·by_cases z:n=node
  ·subst z;rw [if_pos rfl] at hx
   rcases List.mem_append.mp hx with hx | hx
   ·exact h.pv n x hx
   ·rw [List.mem_singleton] at hx;subst hx;exact hp
  ·rw [if_neg z] at hx;exact h.pv n x hx
theorem GI.preds {node:Int}:∀ {ps:List Int} {g:AG} {P:Int→List Int},GI g P Q→gHas g node=true→GI (ps.foldl (gPred node) g) (fun n=>if n=node then P node++ps else P n) Q
 | [],g,P,h,_=>by
  rw [show (fun n=>if n=node then P node++[] else P n)=P from funext fun n=>by by_cases q:n=node <;> simp [q]]
  exact h
 | p :: r,g,P,h,hn=>by
  rw [List.foldl_cons]
  have h1:GI (gPred node g p) _ Q:=(h.get p).addSu (gGet_mem.mpr (.inr rfl)) (gGet_mem.mpr (.inl hn))
  have h2:=GI.preds (node:=node) (ps:=r) h1 (gPred_mem.mpr (.inl hn))
  refine (funext fun n=>?_:(fun n=>if n=node then P node++p :: r else P n)=_)▸h2
  by_cases q:n=node
  ·subst q;simp
  ·simp [q]
theorem GI.add (h:GI g P P) {k:Int} (hk:P k=[]) (ps:List Int):GI (gAdd g k ps) (fun n=>if n=k then ps else P n) (fun n=>if n=k then ps else P n):=by
 have h1:=(h.get k).addNp (gGet_mem.mpr (.inr rfl)) hk ps
 have h2:=GI.preds (node:=k) (ps:=ps) h1 (gNp_mem.mpr (gGet_mem.mpr (.inr rfl)))
 rw [hk] at h2
 exact h2
noncomputable def predOf (kvs:List (Int×List Int)) (n:Int):List Int:=((kvs.find? fun p=>p.1 == n).map (·.2)).getD []
theorem GI.graph:∀ {kvs:List (Int×List Int)} {g:AG} {P:Int→List Int},GI g P P→(kvs.map (·.1)).Nodup→(∀ p∈kvs,P p.1=[]) →
  ∃ P',GI (graphOf kvs g) P' P'∧∀ n,P' n=if n∈kvs.map (·.1) then predOf kvs n else P n
 | [],g,P,h,_,_=>⟨P,h,fun n=>by simp⟩
 | p :: r,g,P,h,hn,h0=>by
  rw [List.map_cons,List.nodup_cons] at hn
  have h1:=h.add (h0 p (.head _)) p.2
  obtain ⟨P',h2,e⟩:=GI.graph h1 hn.2 fun q hq=>by
   have:q.1≠p.1:=fun z=>hn.1 (z▸List.mem_map.mpr ⟨q,hq,rfl⟩)
   rw [if_neg this];exact h0 q (.tail _ hq)
  refine ⟨P',h2,fun n=>?_⟩
  rw [e n,List.map_cons]
  unfold predOf
  rw [List.find?_cons]
  by_cases q:n=p.1
  ·subst q
   rw [if_neg hn.1,if_pos rfl,if_pos (.head _)];simp
  ·rw [if_neg q,show (p.1 == n)=false by simpa using Ne.symm q]
   simp only [List.mem_cons,q,false_or,if_false]
theorem graph_mem {x:Int}:∀ {kvs:List (Int×List Int)} {g:AG},gHas (graphOf kvs g) x=true↔gHas g x=true∨∃ p∈kvs,x=p.1∨x∈p.2
 | [],g=>by simp [graphOf]
 | p :: r,g=>by
  show gHas (graphOf r (gAdd g p.1 p.2)) x=true↔_
  rw [graph_mem,gAdd_mem]
  simp [or_assoc]
theorem GI.toSG (h:GI g P P):SG (g.map (·.k)) P (suOf g)∧g=mkG (g.map (·.k)) (npI P [] []) (suOf g):=by
 have hf:∀ r∈g,npOf g r.k=r.np∧suOf g r.k=r.su:=fun r hr=>by
  have e:=mkG_of h.keys
  have:g.find? (fun q=>q.k == r.k)=some r:=by
   have hk:=h.keys
   clear e h
   induction g with
   | nil=>cases hr
   | cons q t ih =>
    rw [List.map_cons,List.nodup_cons] at hk
    rw [List.find?_cons]
    rcases List.mem_cons.mp hr with e | e
    ·subst e;simp
    ·have:q.k≠r.k:=fun z=>hk.1 (z▸List.mem_map.mpr ⟨r,e,rfl⟩)
     rw [show (q.k == r.k)=false by simpa using this]
     exact ih e hk.2
  unfold npOf suOf
  rw [this];exact ⟨rfl,rfl⟩
 refine ⟨⟨h.keys,fun k hk n=>?_,fun n hn=>gHas_mem.mp (h.cl n hn),fun n p hp=>gHas_mem.mp (h.pv n p hp)⟩,?_⟩
 ·obtain ⟨r,hr,rfl⟩:=List.mem_map.mp hk
  rw [(hf r hr).2];exact h.su r hr n
 ·conv=>lhs;rw [mkG_of h.keys]
  refine mkG_cong fun k hk=>?_
  obtain ⟨r,hr,rfl⟩:=List.mem_map.mp hk
  rw [(hf r hr).1,h.np r hr]
  unfold npI
  rw [if_neg nofun,if_neg nofun,List.filter_eq_self.mpr fun p _=>by simp]
end
end Mine
end
section
namespace Mine
noncomputable def pref (emp:Int→Bool):List Int→List Int
 | []=>[]
 | s :: r=>if emp s then s :: pref emp r else [s]
noncomputable def hScan (emp:Int→Bool) (n:Int):FMap→List Int→FMap
 | H,[]=>H
 | H,s :: r=>if emp s then hScan emp n (fset H n (H n++[s])) r else fset H n (H n++[s])
noncomputable def headsOf (emp:Int→Bool) (rs:List Rule):FMap:=rs.foldl (fun H r=>hScan emp r.1 H r.2) (fun _=>[])
theorem fset_eq (f:FMap) (n:Int) (ys:List Int) (k:Int):fset f n ys k=if k=n then ys else f k:=rfl
theorem hScan_eq (emp:Int→Bool) (n:Int):∀ (b:List Int) (H:FMap),hScan emp n H b=fset H n (H n++pref emp b)
 | [],H=>by
  funext k
  unfold hScan pref
  rw [fset_eq]
  by_cases q:k=n
  ·subst q;simp
  ·rw [if_neg q]
 | s :: r,H=>by
  unfold hScan pref
  split
  ·rw [hScan_eq]
   funext k
   simp only [fset_eq]
   by_cases q:k=n
   ·simp [q]
   ·simp [q]
  ·rfl
theorem heads_mem {emp:Int→Bool} {n x:Int}:∀ {rs:List Rule} {H:FMap},x∈(rs.foldl (fun H r=>hScan emp r.1 H r.2) H) n↔x∈H n∨∃ r∈rs,r.1=n∧x∈pref emp r.2
 | [],H=>by simp
 | r :: t,H=>by
  rw [List.foldl_cons,heads_mem,hScan_eq,fset_eq]
  by_cases q:n=r.1
  ·subst q
   rw [if_pos rfl,List.mem_append]
   constructor
   ·rintro ((h | h) | ⟨r',h1,h2⟩)
    ·exact .inl h
    ·exact .inr ⟨r,.head _,rfl,h⟩
    ·exact .inr ⟨r',.tail _ h1,h2⟩
   ·rintro (h | ⟨r',h1,h2,h3⟩)
    ·exact .inl (.inl h)
    ·rcases List.mem_cons.mp h1 with e | h1
     ·subst e;exact .inl (.inr h3)
     ·exact .inr ⟨r',h1,h2,h3⟩
  ·rw [if_neg q]
   constructor
   ·rintro (h | ⟨r',h1,h2⟩)
    ·exact .inl h
    ·exact .inr ⟨r',.tail _ h1,h2⟩
   ·rintro (h | ⟨r',h1,h2,h3⟩)
    ·exact .inl h
    ·rcases List.mem_cons.mp h1 with e | h1
     ·subst e;exact absurd h2.symm q
     ·exact .inr ⟨r',h1,h2,h3⟩
theorem headsOf_mem {emp:Int→Bool} {rs:List Rule} {n x:Int}:x∈headsOf emp rs n↔∃ r∈rs,r.1=n∧x∈pref emp r.2:=by
 unfold headsOf;rw [heads_mem];simp
theorem pref_sub {emp:Int→Bool}:∀ {b:List Int} {x:Int},x∈pref emp b→x∈b
 | s :: r,x,h=>by
  unfold pref at h
  split at h
  ·rcases List.mem_cons.mp h with e | h
   ·subst e;exact .head _
   ·exact .tail _ (pref_sub h)
  ·rw [List.mem_singleton] at h;subst h;exact .head _
theorem pref_len {emp:Int→Bool}:∀ (b:List Int),(pref emp b).length≤b.length
 | []=>Nat.le_refl _
 | s :: r=>by
  have:=pref_len (emp:=emp) r
  unfold pref
  split <;> simp
  exact om200 this
theorem heads_len {emp:Int→Bool} {n:Int}:∀ (rs:List Rule) (H:FMap),((rs.foldl (fun H r=>hScan emp r.1 H r.2) H) n).length≤(H n).length+((rs.filter fun r=>decide (r.1=n)).map fun r=>r.2.length).sum
 | [],H=>by simp
 | r :: t,H=>by
  rw [List.foldl_cons]
  refine Nat.le_trans (heads_len t _) ?_
  rw [hScan_eq,fset_eq,List.filter_cons]
  have:=pref_len (emp:=emp) r.2
  by_cases q:n=r.1
  ·subst q;simp;exact om301 this
  ·rw [if_neg q,if_neg (by simpa using Ne.symm q)];exact om169
inductive Rch (H:FMap):Int→Int→Prop
 | one {n x:Int}:x∈H n→Rch H n x
 | step {n y x:Int}:y∈H n→Rch H y x→Rch H n x
theorem Rch.trans {H:FMap} {a b c:Int} (h:Rch H a b) (k:Rch H b c):Rch H a c:=by
 induction h with
 | one h=>exact .step h k
 | step h _ ih=>exact .step h (ih k)
theorem Rch.head {H:FMap} {a b:Int} (h:Rch H a b):H a≠[]:=by
 cases h with
 | one h=>exact fun e=>by rw [e] at h;cases h
 | step h _=>exact fun e=>by rw [e] at h;cases h
theorem Rch.last {H:FMap} {a b:Int} (h:Rch H a b):∃ m,b∈H m:=by
 induction h with
 | one h=>exact ⟨_,h⟩
 | step _ _ ih=>exact ih
noncomputable def RchK (H:FMap):Nat→Int→Int→Prop
 | 0,_,_=>False
 | k+1,n,x=>x∈H n∨∃ y∈H n,RchK H k y x
theorem addX_mem {f:FMap} {n x k y:Int}:y∈addX f n x k↔y∈f k∨(k=n∧y=x):=by
 unfold addX
 split
 ·rename_i h
  constructor
  ·exact .inl
  ·rintro (q | ⟨q1,q2⟩)
   ·exact q
   ·subst q1;subst q2;exact h
 ·rw [fset_eq]
  by_cases q:k=n
  ·subst q;rw [if_pos rfl];simp
  ·rw [if_neg q];simp [q]
theorem addAll_mem {n k y:Int}:∀ {xs:List Int} {f:FMap},y∈addAll f n xs k↔y∈f k∨(k=n∧y∈xs)
 | [],f=>by simp [addAll]
 | x :: r,f=>by
  show y∈addAll (addX f n x) n r k↔_
  rw [addAll_mem,addX_mem,List.mem_cons]
  constructor
  ·rintro ((h | ⟨h1,h2⟩) | ⟨h1,h2⟩)
   ·exact .inl h
   ·exact .inr ⟨h1,.inl h2⟩
   ·exact .inr ⟨h1,.inr h2⟩
  ·rintro (h | ⟨h1,h2 | h2⟩)
   ·exact .inl (.inl h)
   ·exact .inl (.inr ⟨h1,h2⟩)
   ·exact .inr ⟨h1,h2⟩
theorem scan_mono {emp:Int→Bool} {n:Int}:∀ {b:List Int} {f:FMap} {k y:Int},y∈f k→y∈scan emp n f b k
 | [],f,k,y,h=>h
 | s :: r,f,k,y,h=>by
  unfold scan
  split
  ·exact scan_mono (addAll_mem.mpr (.inl h))
  ·exact addAll_mem.mpr (.inl h)
theorem frGet_mono {f f':FMap} (h:∀ k,∀ y∈f k,y∈f' k) {s y:Int} (hy:y∈frGet f s):y∈frGet f' s:=by
 unfold frGet at *
 split
 ·rename_i q;rw [if_pos q] at hy;cases hy
 ·rename_i q;rw [if_neg q] at hy;exact h s y hy
theorem scan_has {emp:Int→Bool} {n:Int}:∀ {b:List Int} {f:FMap} {s:Int},s∈pref emp b→s∈scan emp n f b n∧∀ y∈frGet f s,y∈scan emp n f b n
 | s0 :: r,f,s,h=>by
  unfold pref at h
  unfold scan
  split at h
  ·rename_i q
   rw [if_pos q]
   rcases List.mem_cons.mp h with e | h
   ·subst e
    exact ⟨scan_mono (addAll_mem.mpr (.inr ⟨rfl,.head _⟩)),fun y hy=>scan_mono (addAll_mem.mpr (.inr ⟨rfl,.tail _ hy⟩))⟩
   ·have ih:=scan_has (n:=n) (f:=addAll f n (s0 :: frGet f s0)) h
    exact ⟨ih.1,fun y hy=>ih.2 y (frGet_mono (fun k y hy=>addAll_mem.mpr (.inl hy)) hy)⟩
  ·rename_i q
   rw [if_neg q]
   rw [List.mem_singleton] at h;subst h
   exact ⟨addAll_mem.mpr (.inr ⟨rfl,.head _⟩),fun y hy=>addAll_mem.mpr (.inr ⟨rfl,.tail _ hy⟩)⟩
theorem scan_sound {emp:Int→Bool} {H:FMap} {n:Int}:∀ {b:List Int} {f:FMap},(∀ s∈pref emp b,s∈H n)→(∀ k,∀ x∈f k,Rch H k x)→∀ k,∀ x∈scan emp n f b k,Rch H k x
 | [],f,_,hf,k,x,h=>hf k x h
 | s :: r,f,hb,hf,k,x,h=>by
  have hs:s∈H n:=hb s (by unfold pref;split <;> exact .head _)
  have hf':∀ k,∀ x∈addAll f n (s :: frGet f s) k,Rch H k x:=fun k x hx=>by
   rcases addAll_mem.mp hx with h1 | ⟨rfl,h1⟩
   ·exact hf k x h1
   ·rcases List.mem_cons.mp h1 with e | h2
    ·subst e;exact .one hs
    ·unfold frGet at h2
     split at h2
     ·cases h2
     ·exact .step hs (hf s x h2)
  unfold scan at h
  split at h
  ·rename_i q
   exact scan_sound (b:=r) (fun s' h'=>hb s' (by unfold pref;rw [if_pos q];exact .tail _ h')) hf' k x h
  ·exact hf' k x h
theorem turn_mono {emp:Int→Bool}:∀ {rs:List Rule} {f:FMap} {k y:Int},y∈f k→y∈frTurn emp rs f k
 | [],f,k,y,h=>h
 | r :: t,f,k,y,h=>turn_mono (rs:=t) (scan_mono h)
theorem turn_has {emp:Int→Bool}:∀ {rs:List Rule} {f:FMap} {r:Rule},r∈rs→∀ {s:Int},s∈pref emp r.2→s∈frTurn emp rs f r.1∧∀ y∈frGet f s,y∈frTurn emp rs f r.1
 | r0 :: t,f,r,hr,s,hs=>by
  show s∈frTurn emp t (scan emp r0.1 f r0.2) r.1∧_
  rcases List.mem_cons.mp hr with e | hr
  ·subst e
   have h:=scan_has (n:=r.1) (f:=f) hs
   exact ⟨turn_mono (rs:=t) h.1,fun y hy=>turn_mono (rs:=t) (h.2 y hy)⟩
  ·have h:=turn_has (rs:=t) (f:=scan emp r0.1 f r0.2) hr hs
   exact ⟨h.1,fun y hy=>h.2 y (frGet_mono (fun k y hy=>scan_mono hy) hy)⟩
theorem turn_sound {emp:Int→Bool} {H:FMap}:∀ {rs:List Rule} {f:FMap},(∀ r∈rs,∀ s∈pref emp r.2,s∈H r.1)→(∀ k,∀ x∈f k,Rch H k x)→∀ k,∀ x∈frTurn emp rs f k,Rch H k x
 | [],f,_,hf,k,x,h=>hf k x h
 | r :: t,f,hb,hf,k,x,h=>turn_sound (rs:=t) (fun r' h'=>hb r' (.tail _ h')) (scan_sound (hb r (.head _)) hf) k x h
theorem frAt_sound {emp:Int→Bool} {rs:List Rule}:∀ (n:Nat) (k:Int),∀ x∈frAt emp rs n k,Rch (headsOf emp rs) k x
 | 0,k,x,h=>by cases h
 | n+1,k,x,h=>by
  rw [frAt_succ] at h
  exact turn_sound (fun r hr s hs=>headsOf_mem.mpr ⟨r,hr,rfl,hs⟩) (frAt_sound n) k x h
theorem frAt_has {emp:Int→Bool} {rs:List Rule} (hnm:∀ r∈rs,IsNm r.1):∀ (n:Nat) {k x:Int},RchK (headsOf emp rs) n k x→x∈frAt emp rs n k
 | 0,k,x,h=>h.elim
 | n+1,k,x,h=>by
  rw [frAt_succ]
  rcases h with h | ⟨y,hy,h⟩
  ·obtain ⟨r,hr,rfl,hs⟩:=headsOf_mem.mp h
   exact (turn_has hr hs).1
  ·obtain ⟨r,hr,rfl,hs⟩:=headsOf_mem.mp hy
   refine (turn_has hr hs).2 x ?_
   unfold frGet
   have hn:IsNm y:=by
    cases n with
    | zero=>exact h.elim
    | succ n =>
     rcases h with h | ⟨z,hz,_⟩
     ·obtain ⟨r',hr',e,_⟩:=headsOf_mem.mp h;exact e▸hnm r' hr'
     ·obtain ⟨r',hr',e,_⟩:=headsOf_mem.mp hz;exact e▸hnm r' hr'
   rw [if_neg (by have:=hn.1;exact om25 this)]
   exact frAt_has hnm n h
end Mine
end
section
namespace Mine
noncomputable def Wk (H:FMap):Int→List Int→Int→Prop
 | n,[],x=>x∈H n
 | n,y :: l,x=>y∈H n∧Wk H y l x
section
variable {H f:FMap} {x:Int}
theorem Rch.wk {n:Int} (h:Rch H n x):∃ l,Wk H n l x:=by
 induction h with
 | one h=>exact ⟨[],h⟩
 | step h _ ih=>obtain ⟨l,hl⟩:=ih;exact ⟨_ :: l,h,hl⟩
theorem Wk.rchk:∀ {l:List Int} {n:Int},Wk H n l x→RchK H (l.length+1) n x
 | [],n,h=>.inl h
 | y :: l,n,h=>.inr ⟨y,h.1,Wk.rchk h.2⟩
theorem RchK.mono:∀ {k:Nat} {n:Int},RchK H k n x→RchK H (k+1) n x
 | 0,_,h=>h.elim
 | k+1,n,h=>h.imp id fun ⟨y,a,b⟩=>⟨y,a,RchK.mono b⟩
theorem RchK.le {n:Int} {k k':Nat} (h:RchK H k n x) (l:k≤k'):RchK H k' n x:=by
 induction l with
 | refl=>exact h
 | step _ ih=>exact ih.mono
theorem Wk.names:∀ {l:List Int} {n:Int},Wk H n l x→∀ y∈n :: l,H y≠[]
 | [],n,h,y,hy=>by
  rw [List.mem_singleton] at hy;subst hy
  exact fun e=>by
   have:x∈H y:=h
   rw [e] at this;cases this
 | z :: l,n,h,y,hy=>by
  rcases List.mem_cons.mp hy with e | hy
  ·subst e;exact fun e=>by have:=h.1;rw [e] at this;cases this
  ·exact Wk.names h.2 y hy
theorem Wk.suffix {n:Int}:∀ {l:List Int} {y:Int},Wk H y l x→(y :: l).Nodup→n∈y :: l→∃ b,Wk H n b x∧(n :: b).Nodup
 | [],y,h,hn,hm=>by
  rw [List.mem_singleton] at hm;subst hm;exact ⟨[],h,hn⟩
 | z :: l,y,h,hn,hm=>by
  rcases List.mem_cons.mp hm with e | hm
  ·subst e;exact ⟨_,h,hn⟩
  ·exact Wk.suffix h.2 (List.nodup_cons.mp hn).2 hm
theorem Wk.short:∀ {l:List Int} {n:Int},Wk H n l x→∃ b,Wk H n b x∧(n :: b).Nodup
 | [],n,h=>⟨[],h,by simp⟩
 | y :: l,n,h=>by
  obtain ⟨b,h1,h2⟩:=Wk.short h.2
  by_cases q:n∈y :: b
  ·exact h1.suffix h2 q
  ·exact ⟨y :: b,⟨h.1,h1⟩,List.nodup_cons.mpr ⟨q,h2⟩⟩
theorem isNm_four {n:Int} (h:IsNm n):n∈four:=by
 obtain ⟨h1,h2⟩:=h
 obtain rfl | rfl | rfl | rfl:n=256∨n=257∨n=258∨n=259:=by exact om22 h1 h2
 all_goals decide
theorem four_isNm {n:Int} (h:n∈four):IsNm n:=by
 revert n;decide
theorem Rch.le4 {n:Int} (hH:∀ n,H n≠[]→IsNm n) (h:Rch H n x):RchK H 4 n x:=by
 obtain ⟨l,hl⟩:=h.wk
 obtain ⟨b,h1,h2⟩:=hl.short
 have:(n :: b).length≤four.length:=nodup_len h2 fun y hy=>isNm_four (hH y (h1.names y hy))
 exact h1.rchk.le (by simp at this ⊢;exact om103 this)
end
structure Clo (H f:FMap):Prop where
 iff:∀ n x,x∈f n↔Rch H n x
 nm:∀ n,H n≠[]→IsNm n
theorem heads_nm {emp:Int→Bool} {rs:List Rule} (hnm:∀ r∈rs,IsNm r.1) (n:Int) (h:headsOf emp rs n≠[]):IsNm n:=by
 obtain ⟨x,hx⟩:=List.exists_mem_of_ne_nil _ h
 obtain ⟨r,hr,rfl,_⟩:=headsOf_mem.mp hx
 exact hnm r hr
theorem clo_at {emp:Int→Bool} {rs:List Rule} (hnm:∀ r∈rs,IsNm r.1):Clo (headsOf emp rs) (frAt emp rs 4) :=
 ⟨fun n x=>⟨frAt_sound 4 n x,fun h=>frAt_has hnm 4 (h.le4 (heads_nm hnm))⟩,heads_nm hnm⟩
theorem inv_at {ops:List Int} {rs:List Rule} (g:Gram ops rs) (emp:Int→Bool):∀ n,FrInv ops (frAt emp rs n)
 | 0=>FrInv.nil
 | n+1=>by
  rw [frAt_succ]
  have ih:=inv_at g emp n
  generalize frAt emp rs n=f at ih
  unfold frTurn
  have hs:=g.sy
  clear g
  induction rs generalizing f with
  | nil=>exact ih
  | cons r t iht=>exact iht _ (ih.scan fun x hx=>hs r (.head _) x hx) fun r' h'=>hs r' (.tail _ h')
section
variable {H f:FMap} (C:Clo H f)
include C
theorem Clo.tr {n x y:Int} (h:x∈f n) (k:y∈f x):y∈f n:=(C.iff _ _).mpr (((C.iff _ _).mp h).trans ((C.iff _ _).mp k))
theorem Clo.fnm {n:Int} (h:f n≠[]):IsNm n:=by
 obtain ⟨x,hx⟩:=List.exists_mem_of_ne_nil _ h
 exact C.nm n ((C.iff _ _).mp hx).head
theorem Clo.getF (s:Int):frGet f s=f s:=by
 unfold frGet
 split
 ·rename_i q
  exact (Classical.byContradiction fun z=>by have:=(C.fnm z).1;exact om37 q this:f s=[]).symm
 ·rfl
theorem Clo.getH (s:Int):frGet H s=H s:=by
 unfold frGet
 split
 ·rename_i q
  exact (Classical.byContradiction fun z=>by have:=(C.nm s z).1;exact om37 q this:H s=[]).symm
 ·rfl
theorem Clo.deepF {k:Nat} {s:Int}:Deep f (k+1) s↔∀ x∈f s,Deep f k x:=by
 show (∀ x∈frGet f s,Deep f k x)↔_
 rw [C.getF]
theorem Clo.deepH {k:Nat} {s:Int}:Deep H (k+1) s↔∀ x∈H s,Deep H k x:=by
 show (∀ x∈frGet H s,Deep H k x)↔_
 rw [C.getH]
omit C in
theorem Deep.mono:∀ {k:Nat} {s:Int},Deep f k s→Deep f (k+1) s
 | 0,_,h=>h.elim
 | _+1,_,h=>fun x hx=>Deep.mono (h x hx)
omit C in
theorem Deep.le {k k':Nat} {s:Int} (h:Deep f k s) (l:k≤k'):Deep f k' s:=by
 induction l with
 | refl=>exact h
 | step _ ih=>exact ih.mono
theorem Clo.deep_rch {s x:Int} (r:Rch H s x):∀ {k:Nat},Deep H (k+1) s→Deep H k x:=by
 induction r with
 | one h=>exact fun d=>C.deepH.mp d _ h
 | step h _ ih =>
  intro k d
  have:=C.deepH.mp d _ h
  cases k with
  | zero=>exact this.elim
  | succ k=>exact (ih this).mono
theorem Clo.deep:∀ {k:Nat} {s:Int},Deep H k s↔Deep f k s
 | 0,s=>Iff.rfl
 | k+1,s=>by
  constructor
  ·intro d
   exact C.deepF.mpr fun x hx=>(Clo.deep).mp (C.deep_rch ((C.iff _ _).mp hx) d)
  ·intro d
   exact C.deepH.mpr fun x hx=>(Clo.deep).mpr (C.deepF.mp d x ((C.iff _ _).mpr (.one hx)))
theorem Clo.rings {x:Int}:x∈ringsOf f↔x∈f x:=by
 unfold ringsOf
 rw [List.mem_filter]
 constructor
 ·rintro ⟨_,h⟩;simpa using h
 ·intro h;exact ⟨isNm_four (C.fnm fun e=>by rw [e] at h;cases h),by simpa using h⟩
theorem Clo.good {n:Int}:goodB f n=true↔n∉f n∧∀ x∈f n,x∉f x:=by
 unfold goodB
 rw [List.all_eq_true]
 constructor
 ·intro h
  refine ⟨fun z=>?_,fun x hx z=>?_⟩
  ·have:=h n (.head _);simp only [decide_eq_true_eq] at this;exact this (C.rings.mpr z)
  ·have:=h x (.tail _ hx);simp only [decide_eq_true_eq] at this;exact this (C.rings.mpr z)
 ·rintro ⟨h1,h2⟩ x hx
  rcases List.mem_cons.mp hx with e | hx
  ·subst e;simpa using fun z=>h1 (C.rings.mp z)
  ·simpa using fun z=>h2 x hx (C.rings.mp z)
theorem Clo.deep_irr:∀ {k:Nat} {x:Int},Deep f k x→x∉f x
 | 0,_,h=>h.elim
 | k+1,x,h=>fun z=>Clo.deep_irr (C.deepF.mp h x z) z
theorem Clo.deep_good {k:Nat} {n:Int} (h:Deep f k n):goodB f n=true:=by
 cases k with
 | zero=>exact h.elim
 | succ k=>exact C.good.mpr ⟨C.deep_irr h,fun x hx=>C.deep_irr (C.deepF.mp h x hx)⟩
theorem Clo.good_aux:∀ (m:Nat) (vs:List Int) (s:Int),vs.length+m=4→vs.Nodup→(∀ v∈vs,s∈f v)→goodB f s=true→Deep f (m+1) s
 | m,vs,s,hl,hn,hv,hg=>by
  refine C.deepF.mpr fun x hx=>?_
  have hs:=C.fnm (n:=s) fun e=>by rw [e] at hx;cases hx
  obtain ⟨g1,g2⟩:=C.good.mp hg
  have hsv:s∉vs:=fun z=>g1 (hv s z)
  have hnd:(s :: vs).Nodup:=List.nodup_cons.mpr ⟨hsv,hn⟩
  have h4:(s :: vs).length≤four.length:=nodup_len hnd fun y hy=>isNm_four (by
   rcases List.mem_cons.mp hy with e | hy
   ·subst e;exact hs
   ·exact C.fnm fun e=>by have:=hv y hy;rw [e] at this;cases this)
  simp at h4
  obtain ⟨m,rfl⟩:∃ m',m=m'+1:=⟨m - 1,om172 hl h4⟩
  refine Clo.good_aux m (s :: vs) x (by simp;exact om163 hl) hnd (fun v h=>?_) (C.good.mpr ⟨g2 x hx,fun y hy=>g2 y (C.tr hx hy)⟩)
  rcases List.mem_cons.mp h with e | h
  ·subst e;exact hx
  ·exact C.tr (hv v h) hx
theorem Clo.good_deep {n:Int} (h:goodB f n=true):Deep f 5 n:=Clo.good_aux C 4 [] n rfl List.nodup_nil nofun h
omit C in
theorem maxL_lt {t:Int}:∀ {xs:List Int} {m:Int},xs.foldl max m < t↔m < t∧∀ a∈xs,a < t
 | [],m=>by simp
 | x :: r,m=>by
  rw [List.foldl_cons,maxL_lt]
  constructor
  ·rintro ⟨h1,h2⟩
   refine ⟨om49 h1,fun a ha=>?_⟩
   rcases List.mem_cons.mp ha with rfl | ha
   ·exact om50 h1
   ·exact h2 a ha
  ·rintro ⟨h1,h2⟩
   have:=h2 x (.head _)
   exact ⟨om51 h1 this,fun a ha=>h2 a (.tail _ ha)⟩
theorem Clo.chain:∀ {K:Nat} {s:Int},Deep f K s→∀ {t:Nat},chainN K f s < (t:Int)↔Deep f t s
 | 0,_,h,_=>h.elim
 | K+1,s,h,t=>by
  show maxL ((frGet f s).map fun x=>1+chainN K f x) < (t:Int)↔_
  unfold maxL
  rw [maxL_lt,C.getF]
  have hd:=C.deepF.mp h
  cases t with
  | zero =>
   constructor
   ·rintro ⟨h1,_⟩;simp at h1
   ·intro z;exact z.elim
  | succ t =>
   rw [C.deepF]
   constructor
   ·rintro ⟨_,h2⟩ x hx
    have:=h2 _ (List.mem_map.mpr ⟨x,hx,rfl⟩)
    exact (Clo.chain (hd x hx)).mp (om53 this)
   ·intro h2
    refine ⟨om74,fun a ha=>?_⟩
    obtain ⟨x,hx,rfl⟩:=List.mem_map.mp ha
    have:=(Clo.chain (hd x hx)).mpr (h2 x hx)
    exact om59 this
theorem Clo.chain_eq {K t:Nat} {s:Int} (h:Deep f K s) (h1:Deep f (t+1) s) (h2:¬Deep f t s):chainN K f s=(t:Int):=by
 have a:=(C.chain h (t:=t+1)).mpr h1
 have b:¬chainN K f s < (t:Int):=fun z=>h2 ((C.chain h (t:=t)).mp z)
 exact om58 a b
end
end Mine
end
section
namespace Mine
noncomputable def hKV (H:FMap):List (Int×List Int):=four.map fun n=>(n,H n)
theorem pred_h {H:FMap} {n:Int}:predOf (hKV H) n=if n∈four then H n else []:=by
 unfold predOf hKV
 by_cases q:n∈four
 ·rw [if_pos q]
  simp only [four,List.mem_cons,List.not_mem_nil,or_false] at q
  rcases q with rfl | rfl | rfl | rfl <;> rfl
 ·rw [if_neg q,List.find?_eq_none.mpr];rfl
  intro p hp e
  obtain ⟨m,hm,rfl⟩:=List.mem_map.mp hp
  have:m=n:=by simpa using e
  exact q (this▸hm)
structure Sec (H f:FMap) (V:List Int) (su:Int→List Int) (g:AG):Prop where
 clo:Clo H f
 sg:SG V H su
 eq:g=mkG V (npI H [] []) su
 mem:∀ x,x∈V↔x∈four∨∃ n,x∈H n
 sug:∀ n,∀ x,x∈suOf g n↔n∈V∧n∈H x
theorem sec_of {H f:FMap} (C:Clo H f):∃ V su,Sec H f V su (graphOf (hKV H) []):=by
 have hk:((hKV H).map (·.1))=four:=by unfold hKV;rfl
 obtain ⟨P,h1,e⟩:=GI.graph (kvs:=hKV H) GI.nil (by rw [hk];decide) (fun _ _=>rfl)
 have hP:P=H:=funext fun n=>by
  rw [e n,hk,pred_h]
  by_cases q:n∈four
  ·rw [if_pos q,if_pos q]
  ·rw [if_neg q]
   exact (Classical.byContradiction fun z=>q (isNm_four (C.nm n z)):H n=[]).symm
 subst hP
 obtain ⟨a,b⟩:=h1.toSG
 refine ⟨_,_,C,a,b,fun x=>?_,fun n x=>?_⟩
 ·rw [←gHas_mem,graph_mem]
  constructor
  ·rintro (z | ⟨p,hp,z⟩)
   ·simp [gHas] at z
   ·obtain ⟨m,hm,rfl⟩:=List.mem_map.mp hp
    rcases z with z | z
    ·exact .inl (by have:x=m:=z;exact this▸hm)
    ·exact .inr ⟨m,z⟩
  ·rintro (z | ⟨n,z⟩)
   ·exact .inr ⟨(x,P x),List.mem_map.mpr ⟨x,z,rfl⟩,.inl rfl⟩
   ·have hn:=isNm_four (C.nm n fun e=>by rw [e] at z;cases z)
    exact .inr ⟨(n,P n),List.mem_map.mpr ⟨n,hn,rfl⟩,.inr z⟩
 ·by_cases q:n∈(graphOf (hKV P) []).map (·.k)
  ·rw [a.mem q];exact ⟨fun z=>⟨q,z⟩,fun z=>z.2⟩
  ·have:suOf (graphOf (hKV P) []) n=[]:=by
    unfold suOf
    rw [List.find?_eq_none.mpr];rfl
    intro r hr e
    exact q (List.mem_map.mpr ⟨r,hr,by simpa using e⟩)
   rw [this]
   constructor
   ·intro z;cases z
   ·intro z;exact absurd z.1 q
theorem topo_app {g:AG} {r:List Int} (h:Topo g r):∀ {l:List Int},l.Nodup→(∀ n∈l,n∉r∧∀ x∈suOf g n,x∈r)→Topo g (l++r)
 | [],_,_=>h
 | n :: l,hn,hl=>by
  rw [List.nodup_cons] at hn
  refine ⟨fun x hx=>List.mem_append_right _ ((hl n (.head _)).2 x hx),fun z=>?_,topo_app h hn.2 fun m hm=>hl m (.tail _ hm)⟩
  rcases List.mem_append.mp z with z | z
  ·exact hn.1 z
  ·exact (hl n (.head _)).1 z
section
variable {H f:FMap} {V:List Int} {su:Int→List Int} {g:AG} (S:Sec H f V su g)
include S
theorem Sec.has {k:Int}:gHas g k=true↔k∈V:=by rw [S.eq,mkG_has]
theorem Sec.acyc_no (h:Acyc g) (x:Int):x∉f x:=by
 intro hx
 obtain ⟨fin,ht,hall⟩:=h
 have key:∀ {a b:Int},Rch H a b→fin.idxOf b < fin.idxOf a:=by
  intro a b r
  induction r with
  | one h =>
   rename_i n x
   have hb:x∈V:=S.sg.pv _ _ h
   exact (topo_lt ht (hall x (S.has.mpr hb)) ((S.sug x n).mpr ⟨hb,h⟩)).2
  | step h _ ih =>
   rename_i n y x _
   have hy:y∈V:=S.sg.pv _ _ h
   exact Nat.lt_trans ih (topo_lt ht (hall y (S.has.mpr hy)) ((S.sug y n).mpr ⟨hy,h⟩)).2
 exact Nat.lt_irrefl _ (key ((S.clo.iff _ _).mp hx))
theorem Sec.no_acyc (h:∀ x,x∉f x):Acyc g:=by
 have hg:∀ x,goodB f x=true:=fun x=>S.clo.good.mpr ⟨h x,fun y _=>h y⟩
 have hd:∀ x,Deep f 5 x:=fun x=>S.clo.good_deep (hg x)
 have hc:∀ x,chainN 5 f x≤4:=fun x=>by have:chainN 5 f x < ((5:Nat):Int):=(S.clo.chain (hd x) (t:=5)).mpr (hd x);exact om35 this
 have hlt:∀ n x,n∈H x→chainN 5 f n < chainN 5 f x:=fun n x hn=>by
  have h0:¬chainN 5 f x < 0:=fun z=>(S.clo.chain (hd x) (t:=0)).mp z
  obtain ⟨t,ht⟩:∃ t:Nat,chainN 5 f x=t:=⟨(chainN 5 f x).toNat,om43 h0⟩
  rw [ht]
  refine (S.clo.chain (hd n)).mpr ?_
  have hx:Deep f (t+1) x:=(S.clo.chain (hd x) (t:=t+1)).mp (om65 ht)
  exact S.clo.deepF.mp hx n ((S.clo.iff _ _).mpr (.one hn))
 have key:∀ j:Nat,∃ fin,Topo g fin∧∀ x,x∈fin↔x∈V∧5 - (j:Int)≤chainN 5 f x:=by
  intro j
  induction j with
  | zero=>exact ⟨[],trivial,fun x=>⟨nofun,fun z=>by have:=hc x;omega⟩⟩
  | succ j ih =>
   obtain ⟨fin,ht,hm⟩:=ih
   refine ⟨V.filter (fun x=>decide (chainN 5 f x=4 - (j:Int)))++fin,topo_app ht (S.sg.vn.sublist List.filter_sublist) fun n hn=>?_,fun x=>?_⟩
   ·obtain ⟨a,b⟩:=List.mem_filter.mp hn
    have b:chainN 5 f n=4 - (j:Int):=by simpa using b
    refine ⟨fun z=>by have:=((hm n).mp z).2;exact om64 b this,fun x hx=>(hm x).mpr ?_⟩
    obtain ⟨_,hx⟩:=(S.sug n x).mp hx
    exact ⟨S.sg.cl x (fun e=>by rw [e] at hx;cases hx),by have:=hlt n x hx;exact om136 b this⟩
   ·rw [List.mem_append,List.mem_filter,hm x]
    constructor
    ·rintro (⟨a,b⟩ | ⟨a,b⟩)
     ·have b:chainN 5 f x=4 - (j:Int):=by simpa using b
      exact ⟨a,om135 b⟩
     ·exact ⟨a,om133 b⟩
    ·rintro ⟨a,b⟩
     by_cases q:chainN 5 f x=4 - (j:Int)
     ·exact .inl ⟨a,by simpa using q⟩
     ·exact .inr ⟨a,om132 b q⟩
 obtain ⟨fin,ht,hm⟩:=key 5
 refine ⟨fin,ht,fun k hk=>(hm k).mpr ⟨S.has.mp hk,?_⟩⟩
 have h0:¬chainN 5 f k < ((0:Nat):Int):=fun z=>(S.clo.chain (hd k) (t:=0)).mp z
 exact om42 h0
theorem Sec.acyc:Acyc g↔ringsOf f=[]:=by
 constructor
 ·intro h
  exact List.eq_nil_iff_forall_not_mem.mpr fun x hx=>S.acyc_no h x (S.clo.rings.mp hx)
 ·intro h
  exact S.no_acyc fun x hx=>by have:=S.clo.rings.mpr hx;rw [h] at this;cases this
theorem Sec.ring {ring:List Int} (h:IsRing g ring) {k:Nat} {a b:Int} (ha:ring[k]?=some a) (hb:ring[k+1]?=some b):IsNm b∧a∈H b:=by
 have hp:=Pth.drop k h.path
 obtain ⟨h1,e1⟩:=List.getElem?_eq_some_iff.mp ha
 obtain ⟨h2,e2⟩:=List.getElem?_eq_some_iff.mp hb
 rw [List.drop_eq_getElem_cons h1,List.drop_eq_getElem_cons h2,e1,e2] at hp
 have:=((S.sug a b).mp hp.1).2
 exact ⟨S.clo.nm b (fun e=>by rw [e] at this;cases this),this⟩
structure Rnd (H f:FMap) (V:List Int) (t:Nat) (L rd:List Int):Prop where
 ki:KI V H L L rd
 nd:L.Nodup
 mem:∀ x,x∈L↔x∈V∧Deep f t x
omit S in
theorem Rnd.start {G:SG V H su}:Rnd H f V 0 [] (V.filter fun k=>decide (H k=[])):=⟨KI.start G,List.nodup_nil,fun x=>⟨nofun,fun z=>z.2.elim⟩⟩
theorem Sec.at {t:Nat} {L rd:List Int} (r:Rnd H f V t L rd) {x:Int} (hx:x∈rd):x∈V∧Deep f (t+1) x∧¬Deep f t x∧x∉L∧∀ p∈H x,p∈L:=by
 obtain ⟨a,b,c⟩:=(r.ki.rdi x).mp hx
 refine ⟨a,S.clo.deep.mp (S.clo.deepH.mpr fun p hp=>S.clo.deep.mpr ((r.mem p).mp (c p hp)).2),fun z=>b ((r.mem x).mpr ⟨a,z⟩),b,c⟩
theorem Sec.step {t:Nat} {L rd:List Int} (r:Rnd H f V t L rd):∃ rd',doneS (gOut (mkG V (npI H L L) su) rd,[]) rd=(mkG V (npI H (L++rd) (L++rd)) su,rd')∧Rnd H f V (t+1) (L++rd) rd':=by
 obtain ⟨e1,k1⟩:=r.ki.out (su:=su)
 have hn:(L++rd).Nodup:=List.nodup_append.mpr ⟨r.nd,r.ki.nd,fun a ha b hb z=>by subst z;exact (S.at r hb).2.2.2.1 ha⟩
 obtain ⟨rd',e2,k2,_⟩:=k1.doneS S.sg rd r.ki.nd fun k hk=>⟨List.mem_append_right _ hk,(S.at r hk).2.2.2.1⟩
 have hm:∀ x,x∈rd.reverse++L↔x∈L++rd:=fun x=>by simp [or_comm]
 refine ⟨rd',by rw [e1,e2,npI_cong (fun _=>Iff.rfl) hm],k2.cong (fun _=>Iff.rfl) hm,hn,fun x=>?_⟩
 rw [List.mem_append,r.mem x]
 constructor
 ·rintro (⟨a,b⟩ | hx)
  ·exact ⟨a,b.mono⟩
  ·exact ⟨(S.at r hx).1,(S.at r hx).2.1⟩
 ·rintro ⟨a,b⟩
  by_cases q:x∈L
  ·exact .inl ((r.mem x).mp q)
  ·refine .inr ((r.ki.rdi x).mpr ⟨a,q,fun p hp=>(r.mem p).mpr ⟨S.sg.pv _ _ hp,?_⟩⟩)
   exact S.clo.deep.mp (S.clo.deepH.mp (S.clo.deep.mpr b) p hp)
theorem Sec.handed {t:Nat} {L rd:List Int} (r:Rnd H f V t L rd) {i:Nat} {k:Int} (hi:rd[i]?=some k):k∈V∧npOf (doneS (gOut (mkG V (npI H L L) su) rd,[]) (rd.take i)).1 k=-1:=by
 obtain ⟨e1,k1⟩:=r.ki.out (su:=su)
 rw [e1]
 exact ⟨(S.at r (List.mem_of_getElem? hi)).1,k1.handed S.sg r.ki.nd (fun k hk=>⟨List.mem_append_right _ hk,(S.at r hk).2.2.2.1⟩) hi⟩
theorem Sec.deep5 {x:Int} {k:Nat} (h:Deep f k x):Deep f 5 x:=S.clo.good_deep (S.clo.deep_good h)
theorem Sec.chain {t:Nat} {L rd:List Int} (r:Rnd H f V t L rd) {x:Int} (hx:x∈rd):chainN 5 f x=(t:Int):=by
 obtain ⟨_,a,b,_⟩:=S.at r hx
 exact S.clo.chain_eq (S.deep5 a) a b
theorem Sec.last {L rd:List Int} (r:Rnd H f V 6 L rd):rd=[]:=List.eq_nil_iff_forall_not_mem.mpr fun x hx=>by
 obtain ⟨_,a,b,_⟩:=S.at r hx
 exact b ((S.deep5 a).le (om5))
end
end Mine
end
section
namespace Mine
section
variable {α:Type}
theorem aget_nil (k:Int):aget ([]:List (Int×α)) k=none:=rfl
theorem aget_cons (p:Int×α) (E:List (Int×α)) (k:Int):aget (p :: E) k=if p.1=k then some p.2 else aget E k:=by
 unfold aget
 rw [List.find?_cons]
 by_cases q:p.1=k <;> simp [q]
theorem aget_app (E F:List (Int×α)) (k:Int):aget (E++F) k=(aget E k).or (aget F k):=by
 induction E with
 | nil=>simp [aget_nil]
 | cons p E ih =>
  rw [List.cons_append,aget_cons,aget_cons,ih]
  split <;> simp
theorem aget_none {E:List (Int×α)} {k:Int}:aget E k=none↔k∉E.map (·.1):=by
 induction E with
 | nil=>simp [aget_nil]
 | cons p E ih =>
  rw [aget_cons,List.map_cons,List.mem_cons]
  by_cases q:p.1=k
  ·subst q;simp
  ·rw [if_neg q,ih]
   constructor
   ·rintro h (z | z)
    ·exact q z.symm
    ·exact h z
   ·exact fun h z=>h (.inr z)
theorem aget_some {E:List (Int×α)} {k:Int}:(aget E k).isSome=true↔k∈E.map (·.1):=by
 have:=aget_none (E:=E) (k:=k)
 cases e:aget E k with
 | none=>simp;have h:=this.mp e;simpa using h
 | some v =>
  simp only [Option.isSome_some,true_iff]
  refine Classical.byContradiction fun z=>?_
  rw [this.mpr z] at e;cases e
theorem aget_mem {E:List (Int×α)} (h:(E.map (·.1)).Nodup) {p:Int×α} (hp:p∈E):aget E p.1=some p.2:=by
 induction E with
 | nil=>cases hp
 | cons q E ih =>
  rw [List.map_cons,List.nodup_cons] at h
  rw [aget_cons]
  rcases List.mem_cons.mp hp with e | hp
  ·subst e;rw [if_pos rfl]
  ·rw [if_neg fun (z:q.1=p.1)=>h.1 (z▸List.mem_map.mpr ⟨p,hp,rfl⟩)]
   exact ih h.2 hp
theorem aset_keys (E:List (Int×α)) (k:Int) (v:α):(aset E k v).map (·.1)=if k∈E.map (·.1) then E.map (·.1) else E.map (·.1)++[k]:=by
 have e:E.any (fun p=>decide (p.1=k))=decide (k∈E.map (·.1)):=by
  rw [Bool.eq_iff_iff,List.any_eq_true,decide_eq_true_eq,List.mem_map]
  constructor
  ·rintro ⟨p,hp,z⟩;exact ⟨p,hp,by simpa using z⟩
  ·rintro ⟨p,hp,z⟩;exact ⟨p,hp,by simpa using z⟩
 unfold aset
 rw [e]
 by_cases q:k∈E.map (·.1)
 ·rw [if_pos q,if_pos (by simpa using q),List.map_map]
  refine List.map_congr_left fun p _=>?_
  simp only [Function.comp];split <;> rfl
 ·rw [if_neg q,if_neg (by simpa using q),List.map_append];rfl
theorem aset_nodup {E:List (Int×α)} (h:(E.map (·.1)).Nodup) (k:Int) (v:α):((aset E k v).map (·.1)).Nodup:=by
 rw [aset_keys]
 split
 ·exact h
 ·rename_i q
  exact List.nodup_append.mpr ⟨h,by simp,fun a ha b hb z=>by rw [List.mem_singleton] at hb;subst hb;subst z;exact q ha⟩
theorem aget_upd (k:Int) (v:α) (x:Int):∀ E:List (Int×α),aget (E.map fun p=>if p.1=k then (p.1,v) else p) x=if x=k then (if k∈E.map (·.1) then some v else none) else aget E x
 | []=>by simp [aget_nil]
 | p :: E=>by
  rw [List.map_cons,aget_cons,aget_cons,aget_upd k v x E]
  by_cases z:p.1=k
  ·by_cases y:x=k
   ·subst y;simp [z]
   ·have:¬k=x:=fun h=>y h.symm
    simp [z,y,this]
  ·by_cases y:x=k
   ·subst y
    have:¬x=p.1:=fun h=>z h.symm
    rw [if_neg z,if_pos rfl,if_pos rfl,if_neg z,List.map_cons]
    simp only [List.mem_cons,this,false_or]
   ·simp [z,y]
theorem aget_aset (E:List (Int×α)) (k:Int) (v:α) (x:Int):aget (aset E k v) x=if x=k then some v else aget E x:=by
 have e:E.any (fun p=>decide (p.1=k))=decide (k∈E.map (·.1)):=by
  rw [Bool.eq_iff_iff,List.any_eq_true,decide_eq_true_eq,List.mem_map]
  constructor
  ·rintro ⟨p,hp,z⟩;exact ⟨p,hp,by simpa using z⟩
  ·rintro ⟨p,hp,z⟩;exact ⟨p,hp,by simpa using z⟩
 unfold aset
 rw [e]
 by_cases q:k∈E.map (·.1)
 ·rw [if_pos (by simpa using q),aget_upd,if_pos q]
 ·rw [if_neg (by simpa using q),aget_app,aget_cons,aget_nil]
  by_cases y:x=k
  ·subst y;rw [aget_none.mpr q];simp
  ·rw [if_neg (Ne.symm y),if_neg y];simp
structure SameD (a b:List (Int×α)):Prop where
 len:a.length=b.length
 get:∀ p∈a,aget b p.1=some p.2
theorem same_len:∀ {a b:List Int},a.Nodup→b.Nodup→(∀ x,x∈a↔x∈b)→a.length=b.length:=fun ha hb h =>
 ((List.perm_ext_iff_of_nodup ha hb).mpr h).length_eq
theorem sameD_of {a b:List (Int×α)} (ha:(a.map (·.1)).Nodup) (hb:(b.map (·.1)).Nodup) (h:∀ k,aget a k=aget b k):SameD a b:=by
 refine ⟨?_,fun p hp=>by rw [←h p.1];exact aget_mem ha hp⟩
 have:=same_len ha hb fun x=>by rw [←aget_some,←aget_some,h x]
 simpa using this
end
theorem starts_get (y:Int):∀ (xs:List Int) (D:List (Int×DV)),aget (xs.foldl (fun D x=>aset D x ((0:Int),[x])) D) y=if y∈xs then some (0,[y]) else aget D y
 | [],D=>by simp
 | x :: r,D=>by
  rw [List.foldl_cons,starts_get y r,aget_aset]
  by_cases q:y∈r
  ·simp [q]
  ·by_cases z:y=x
   ·subst z;simp
   ·simp [q,z]
theorem step_get (K:Nat) (f:FMap) (D:List (Int×DV)) (n y:Int):aget (dueStep K f D n) y=if y∈startsOf f n then some (0,[y]) else if y=n∧goodB f n=true then some (chainN K f n,sortI (startsOf f n)) else aget D y:=by
 unfold dueStep dueStarts
 rw [starts_get]
 by_cases q:y∈startsOf f n
 ·rw [if_pos q,if_pos q]
 ·rw [if_neg q,if_neg q]
  by_cases g:goodB f n=true
  ·rw [if_pos g,aget_aset]
   simp [g]
  ·rw [if_neg g,if_neg fun z=>g z.2]
theorem starts_lt {f:FMap} {n y:Int} (h:y∈startsOf f n):y < 256:=by
 unfold startsOf at h
 simpa using (List.mem_filter.mp h).2
theorem due_low {K:Nat} {f:FMap} {y:Int} (hy:y < 256):∀ {ns:List Int} {D:List (Int×DV)},(∀ n∈ns,256≤n) →
  ((∃ n∈ns,y∈startsOf f n)∨aget D y=some (0,[y])→aget (ns.foldl (dueStep K f) D) y=some (0,[y]))∧((∀ n∈ns,y∉startsOf f n)→aget (ns.foldl (dueStep K f) D) y=aget D y)
 | [],D,_=>⟨fun h=>h.elim (fun ⟨n,hn,_⟩=>by cases hn) id,fun _=>rfl⟩
 | n :: r,D,hn=>by
  have ih:=due_low (K:=K) (f:=f) hy (ns:=r) (D:=dueStep K f D n) fun m hm=>hn m (.tail _ hm)
  have hne:¬(y=n∧goodB f n=true):=fun z=>by have:=hn n (.head _);omega
  refine ⟨fun h=>ih.1 ?_,fun h=>?_⟩
  ·rcases h with ⟨m,hm,h⟩ | h
   ·rcases List.mem_cons.mp hm with e | hm
    ·subst e;right;rw [step_get,if_pos h]
    ·exact .inl ⟨m,hm,h⟩
   ·right;rw [step_get]
    split
    ·rfl
    ·exact h
  ·rw [List.foldl_cons,ih.2 fun m hm=>h m (.tail _ hm),step_get,if_neg (h n (.head _)),if_neg hne]
theorem due_high {K:Nat} {f:FMap} {y:Int} (hy:256≤y):∀ {ns:List Int} {D:List (Int×DV)},
  aget (ns.foldl (dueStep K f) D) y=if y∈ns∧goodB f y=true then some (chainN K f y,sortI (startsOf f y)) else aget D y
 | [],D=>by simp
 | n :: r,D=>by
  have hs:y∉startsOf f n:=fun z=>by have:=starts_lt z;exact om19 hy this
  have e:aget (dueStep K f D n) y=if y=n∧goodB f n=true then some (chainN K f n,sortI (startsOf f n)) else aget D y:=by rw [step_get,if_neg hs]
  rw [List.foldl_cons,due_high hy,e]
  by_cases g:goodB f y=true
  ·by_cases q:y∈r
   ·rw [if_pos ⟨q,g⟩,if_pos ⟨.tail _ q,g⟩]
   ·rw [if_neg fun z=>q z.1]
    by_cases e:y=n
    ·subst e;rw [if_pos ⟨rfl,g⟩,if_pos ⟨.head _,g⟩]
    ·rw [if_neg fun z=>e z.1,if_neg fun z=>by
      rcases List.mem_cons.mp z.1 with h | h
      ·exact e h
      ·exact q h]
  ·rw [if_neg fun z=>g z.2,if_neg fun z=>by rw [←z.1] at z;exact g z.2,if_neg fun z=>g z.2]
theorem due_nodup {K:Nat} {f:FMap}:∀ {ns:List Int} {D:List (Int×DV)},(D.map (·.1)).Nodup→((ns.foldl (dueStep K f) D).map (·.1)).Nodup
 | [],D,h=>h
 | n :: r,D,h=>by
  rw [List.foldl_cons]
  refine due_nodup ?_
  unfold dueStep dueStarts
  have h2:((if goodB f n=true then aset D n (chainN K f n,sortI (startsOf f n)) else D).map (·.1)).Nodup:=by
   split
   ·exact aset_nodup h _ _
   ·exact h
  generalize (if goodB f n=true then aset D n (chainN K f n,sortI (startsOf f n)) else D)=D1 at h2
  generalize startsOf f n=xs
  induction xs generalizing D1 with
  | nil=>exact h2
  | cons x r ih=>exact ih _ (aset_nodup h2 _ _)
noncomputable def Sx (f:FMap) (x:Int):List Int:=if x < 256 then [x] else sortI (startsOf f x)
noncomputable def toldL (f:FMap) (L:List Int):List (Int×DV):=L.map fun x=>(x,(chainN 5 f x,Sx f x))
theorem toldL_keys (f:FMap) (L:List Int):(toldL f L).map (·.1)=L:=by unfold toldL;rw [List.map_map];simp [Function.comp_def]
theorem toldL_get {f:FMap} {L:List Int} {x:Int}:aget (toldL f L) x=if x∈L then some (chainN 5 f x,Sx f x) else none:=by
 unfold toldL
 induction L with
 | nil=>rfl
 | cons a r ih =>
  rw [List.map_cons,aget_cons,ih]
  by_cases q:a=x
  ·subst q;simp
  ·simp [q,Ne.symm q]
theorem Sec.told {H f:FMap} {V:List Int} {su:Int→List Int} {g:AG} (S:Sec H f V su g) {L rd:List Int} (r:Rnd H f V 6 L rd) (hV:∀ n,∀ x∈H n,IsSym x):SameD (toldL f L) (dueOf 5 f):=by
 refine sameD_of (by rw [toldL_keys];exact r.nd) (due_nodup List.nodup_nil) fun x=>?_
 rw [toldL_get]
 unfold dueOf Sx
 have h4:∀ n∈four,256≤n:=fun n hn=>(four_isNm hn).1
 by_cases q:x < 256
 ·rw [if_pos q]
  have hf:f x=[]:=Classical.byContradiction fun z=>by have:=(S.clo.fnm z).1;exact om37 q this
  have hd:Deep f 1 x:=S.clo.deepF.mpr fun y hy=>by rw [hf] at hy;cases hy
  by_cases z:∃ n∈four,x∈startsOf f n
  ·rw [(due_low q h4).1 (.inl z)]
   obtain ⟨n,hn,hx⟩:=z
   have hx:x∈f n:=(List.mem_filter.mp hx).1
   obtain ⟨m,hm⟩:=((S.clo.iff _ _).mp hx).last
   rw [if_pos ((r.mem x).mpr ⟨(S.mem x).mpr (.inr ⟨m,hm⟩),hd.le (om4)⟩)]
   have:chainN 5 f x=((0:Nat):Int):=S.clo.chain_eq (hd.le (om3)) hd (fun z=>z)
   rw [this];rfl
  ·rw [(due_low q h4).2 fun n hn hx=>z ⟨n,hn,hx⟩,aget_nil,if_neg]
   intro hx
   rcases (S.mem x).mp ((r.mem x).mp hx).1 with h | ⟨n,hn⟩
   ·have:=h4 x h;exact om37 q this
   ·refine z ⟨n,isNm_four (S.clo.nm n fun e=>by rw [e] at hn;cases hn),List.mem_filter.mpr ⟨(S.clo.iff _ _).mpr (.one hn),by simpa using q⟩⟩
 ·rw [if_neg q,due_high (om44 q),aget_nil]
  by_cases z:x∈L
  ·obtain ⟨a,b⟩:=(r.mem x).mp z
   have hx:x∈four:=by
    rcases (S.mem x).mp a with h | ⟨n,hn⟩
    ·exact h
    ·rcases hV n x hn with h | h
     ·exact isNm_four h
     ·have:=h.2;omega
   rw [if_pos z,if_pos ⟨hx,S.clo.deep_good b⟩]
  ·rw [if_neg z,if_neg]
   rintro ⟨h1,h2⟩
   exact z ((r.mem x).mpr ⟨(S.mem x).mpr (.inl h1),(S.clo.good_deep h2).le (om5)⟩)
end Mine
end
section
namespace Mine
noncomputable def ruleNodes (rs:List Rule):List (Int×List Int):=rs.zipIdx.filterMap fun p=>if p.1.2.all (fun x=>decide (256≤x)) then some (-1 - (p.2:Int),p.1.2) else none
noncomputable def bkKV (rs:List Rule):List (Int×List Int):=four.map (fun n=>(n,([]:List Int)))++ruleNodes rs
noncomputable def nmOf (rs:List Rule) (x:Int):Int:=(rs.getD (-1 - x).toNat (0,[])).1
theorem ruleNodes_mem {rs:List Rule} {x:Int} {b:List Int}:(x,b)∈ruleNodes rs↔∃ (k:Nat) (r:Rule),rs[k]?=some r∧x=-1 - (k:Int)∧b=r.2∧∀ y∈r.2,256≤y:=by
 unfold ruleNodes
 rw [List.mem_filterMap]
 constructor
 ·rintro ⟨⟨r,k⟩,h1,h2⟩
  have hk:=List.mem_zipIdx' h1
  split at h2
  ·rename_i q
   simp only [Option.some.injEq,Prod.mk.injEq] at h2
   refine ⟨k,r,by rw [List.getElem?_eq_getElem hk.1];exact congrArg some hk.2.symm,h2.1.symm,h2.2.symm,fun y hy=>?_⟩
   have:=List.all_eq_true.mp q y hy
   simpa using this
  ·cases h2
 ·rintro ⟨k,r,h1,rfl,rfl,h2⟩
  refine ⟨(r,k),?_,?_⟩
  ·rw [List.mem_zipIdx_iff_getElem?];exact h1
  ·dsimp only
   rw [if_pos (List.all_eq_true.mpr fun y hy=>by simpa using h2 y hy)]
theorem nodes_nodup (rs:List Rule):((ruleNodes rs).map (·.1)).Nodup:=by
 unfold ruleNodes
 generalize 0=o
 induction rs generalizing o with
 | nil=>exact List.nodup_nil
 | cons r t ih =>
  rw [List.zipIdx_cons,List.filterMap_cons]
  have ht:=ih (o+1)
  split
  ·exact ht
  ·rename_i p hp
   split at hp
   ·cases hp
    rw [List.map_cons,List.nodup_cons]
    refine ⟨fun z=>?_,ht⟩
    obtain ⟨⟨x,b⟩,h1,h2⟩:=List.mem_map.mp z
    obtain ⟨⟨r',k⟩,h3,h4⟩:=List.mem_filterMap.mp h1
    split at h4
    ·simp only [Option.some.injEq,Prod.mk.injEq] at h4
     have:=List.le_snd_of_mem_zipIdx h3
     have h2:x=-1 - (o:Int):=h2
     omega
    ·cases h4
   ·cases hp
structure Fst (rs:List Rule) (V:List Int) (P su:Int→List Int) (g:AG):Prop where
 sg:SG V P su
 eq:g=mkG V (npI P [] []) su
 mem:∀ x,x∈V↔x∈four∨∃ (k:Nat) (r:Rule),rs[k]?=some r∧x=-1 - (k:Int)∧∀ y∈r.2,256≤y
 p4:∀ n∈four,P n=[]
 pr:∀ (k:Nat) (r:Rule),rs[k]?=some r→(∀ y∈r.2,256≤y)→P (-1 - (k:Int))=r.2
 sug:∀ n,∀ x,x∈suOf g n↔n∈V∧n∈P x
theorem fst_of {ops:List Int} {rs:List Rule} (G:Gram ops rs):∃ V P su,Fst rs V P su (graphOf (bkKV rs) []):=by
 have hk:((bkKV rs).map (·.1))=four++(ruleNodes rs).map (·.1):=by unfold bkKV;rw [List.map_append];rfl
 have hneg:∀ x∈(ruleNodes rs).map (·.1),x < 0:=fun x hx=>by
  obtain ⟨⟨y,b⟩,h1,rfl⟩:=List.mem_map.mp hx
  obtain ⟨k,_,_,e,_⟩:=ruleNodes_mem.mp h1
  show y < 0
  exact om63 e
 have hnd:((bkKV rs).map (·.1)).Nodup:=by
  rw [hk]
  refine List.nodup_append.mpr ⟨by decide,nodes_nodup rs,fun a ha b hb z=>?_⟩
  subst z
  have:=(four_isNm ha).1
  have:=hneg a hb
  exact om18 ‹_› this
 obtain ⟨P,h1,e⟩:=GI.graph (kvs:=bkKV rs) GI.nil hnd (fun _ _=>rfl)
 obtain ⟨a,b⟩:=h1.toSG
 have hp4:∀ n∈four,P n=[]:=fun n hn=>by
  rw [e n,hk,if_pos (List.mem_append_left _ hn)]
  unfold predOf bkKV
  simp only [four,List.mem_cons,List.not_mem_nil,or_false] at hn
  rcases hn with rfl | rfl | rfl | rfl <;> rfl
 have hpr:∀ (k:Nat) (r:Rule),rs[k]?=some r→(∀ y∈r.2,256≤y)→P (-1 - (k:Int))=r.2:=fun k r hkr hy=>by
  have hm:(-1 - (k:Int),r.2)∈bkKV rs:=List.mem_append_right _ (ruleNodes_mem.mpr ⟨k,r,hkr,rfl,rfl,hy⟩)
  rw [e,if_pos (List.mem_map.mpr ⟨_,hm,rfl⟩)]
  have:=aget_mem hnd hm
  unfold aget at this
  unfold predOf
  simp only [show ∀ p:Int×List Int,(p.1 == -1 - (k:Int))=decide (p.1=-1 - (k:Int)) from fun p=>by rw [Bool.eq_iff_iff];simp]
  rw [this];rfl
 refine ⟨_,P,_,a,b,fun x=>?_,hp4,hpr,fun n x=>?_⟩
 ·rw [←gHas_mem,graph_mem]
  constructor
  ·rintro (z | ⟨⟨m,ps⟩,hp,z⟩)
   ·simp [gHas] at z
   ·rcases List.mem_append.mp hp with hp | hp
    ·obtain ⟨n,hn,e⟩:=List.mem_map.mp hp
     cases e
     rcases z with z | z
     ·exact .inl (by have:x=m:=z;exact this▸hn)
     ·cases z
    ·obtain ⟨k,r,h1,h2,h3,h4⟩:=ruleNodes_mem.mp hp
     rcases z with z | z
     ·exact .inr ⟨k,r,h1,(show x=m from z).trans h2,h4⟩
     ·left
      have z:x∈ps:=z
      subst h3
      have h5:=h4 x z
      rcases G.sy r (List.mem_of_getElem? h1) x z with q | q
      ·exact isNm_four q
      ·have:=(G.op x q).2;omega
  ·rintro (z | ⟨k,r,h1,h2,h3⟩)
   ·exact .inr ⟨(x,[]),List.mem_append_left _ (List.mem_map.mpr ⟨x,z,rfl⟩),.inl rfl⟩
   ·exact .inr ⟨(x,r.2),List.mem_append_right _ (ruleNodes_mem.mpr ⟨k,r,h1,h2,rfl,h3⟩),.inl rfl⟩
 ·by_cases q:n∈(graphOf (bkKV rs) []).map (·.k)
  ·rw [a.mem q];exact ⟨fun z=>⟨q,z⟩,fun z=>z.2⟩
  ·have:suOf (graphOf (bkKV rs) []) n=[]:=by
    unfold suOf
    rw [List.find?_eq_none.mpr];rfl
    intro r hr e
    exact q (List.mem_map.mpr ⟨r,hr,by simpa using e⟩)
   rw [this]
   constructor
   ·intro z;cases z
   ·intro z;exact absurd z.1 q
section
variable {ops:List Int} {rs:List Rule} {V:List Int} {P su:Int→List Int} {g:AG} (S:Fst rs V P su g)
include S
theorem Fst.pNeg {x:Int} (h:P x≠[]):x < 0:=by
 rcases (S.mem x).mp (S.sg.cl x h) with z | ⟨k,r,_,e,_⟩
 ·exact absurd (S.p4 x z) h
 ·exact om63 e
theorem Fst.pNm {x n:Int} (h:n∈P x):n∈four:=by
 have hx:=S.sg.cl x fun e=>by rw [e] at h;cases h
 rcases (S.mem n).mp (S.sg.pv x n h) with z | ⟨k,r,_,e,_⟩
 ·exact z
 ·rcases (S.mem x).mp hx with z | ⟨k',r',h1,rfl,h2⟩
  ·rw [S.p4 x z] at h;cases h
  ·rw [S.pr k' r' h1 h2] at h
   have:=h2 n h
   omega
theorem Fst.acyc:Acyc g:=by
 have key:Topo g (V.filter fun x=>decide (x < 0)):=by
  have h:=topo_app (g:=g) (r:=[]) trivial (l:=V.filter fun x=>decide (x < 0)) (S.sg.vn.sublist List.filter_sublist) fun n hn=>⟨nofun,fun x hx=>?_⟩
  ·simpa using h
  ·obtain ⟨a,b⟩:=List.mem_filter.mp hn
   have:=S.pNm ((S.sug n x).mp hx).2
   have:=(four_isNm this).1
   have b:n < 0:=by simpa using b
   omega
 refine ⟨(V.filter fun x=>decide (¬x < 0))++V.filter (fun x=>decide (x < 0)),topo_app key (S.sg.vn.sublist List.filter_sublist) fun n hn=>⟨fun z=>?_,fun x hx=>?_⟩,fun k hk=>?_⟩
 ·have h1:¬n < 0:=by simpa using (List.mem_filter.mp hn).2
  have h2:n < 0:=by simpa using (List.mem_filter.mp z).2
  exact h1 h2
 ·have h:=((S.sug n x).mp hx).2
  have hne:P x≠[]:=fun e=>by rw [e] at h;cases h
  exact List.mem_filter.mpr ⟨S.sg.cl x hne,by simpa using S.pNeg hne⟩
 ·rw [S.eq,mkG_has] at hk
  rw [List.mem_append,List.mem_filter,List.mem_filter]
  by_cases q:k < 0
  ·exact .inr ⟨hk,by simpa using q⟩
  ·exact .inl ⟨hk,by simpa using q⟩
noncomputable def bkStep (rs:List Rule) (t:Nat) (st:List (Int×Int)×List Int) (x:Int):List (Int×Int)×List Int :=
 if x < 0∧aget st.1 (nmOf rs x)=none then (aset st.1 (nmOf rs x) (t:Int),st.2++[nmOf rs x]) else st
omit S in
theorem bk_all {t:Nat}:∀ (xs:List Int) (T:List (Int×Int)) (fr:List Int),fr.Nodup→(∀ n∈fr,(aget T n).isSome)→∀ T' fr',xs.foldl (bkStep rs t) (T,fr)=(T',fr') →
  fr'.Nodup∧(∀ n,n∈fr'↔n∈fr∨(aget T n=none∧∃ x∈xs,x < 0∧nmOf rs x=n))∧(∀ n,aget T' n=if n∈fr'∧n∉fr then some (t:Int) else aget T n)∧((T.map (·.1)).Nodup→(T'.map (·.1)).Nodup)∧fr'.length≤fr.length+xs.length
 | [],T,fr,hn,hf,T',fr',e=>by
  cases e
  refine ⟨hn,fun n=>⟨.inl,fun z=>z.elim id fun ⟨_,_,h,_⟩=>by cases h⟩,fun n=>?_,id,Nat.le_refl _⟩
  rw [if_neg fun z=>z.2 z.1]
 | x :: r,T,fr,hn,hf,T',fr',e=>by
  rw [List.foldl_cons] at e
  unfold bkStep at e
  by_cases q:x < 0∧aget T (nmOf rs x)=none
  ·rw [if_pos q] at e
   have hx:nmOf rs x∉fr:=fun z=>by have:=hf _ z;rw [q.2] at this;cases this
   obtain ⟨h1,h2,h3,h4,h5⟩:=bk_all r _ _ (List.nodup_append.mpr ⟨hn,by simp,fun a ha b hb z=>by rw [List.mem_singleton] at hb;subst hb;subst z;exact hx ha⟩) (fun n hm=>by
    rw [aget_aset]
    split
    ·rfl
    ·rename_i z
     rcases List.mem_append.mp hm with hm | hm
     ·exact hf n hm
     ·rw [List.mem_singleton] at hm;exact absurd hm z) T' fr' e
   refine ⟨h1,fun n=>?_,fun n=>?_,fun hT=>h4 (aset_nodup hT _ _),by rw [List.length_append] at h5;simp at h5 ⊢;exact om241 h5⟩
   ·rw [h2 n,List.mem_append,List.mem_singleton,aget_aset]
    by_cases z:n=nmOf rs x
    ·subst z
     simp only [or_true,true_or,if_true,true_iff]
     exact .inr ⟨q.2,x,.head _,q.1,rfl⟩
    ·simp only [z,or_false,if_false]
     constructor
     ·rintro (h | ⟨h,y,hy,e⟩)
      ·exact .inl h
      ·exact .inr ⟨h,y,.tail _ hy,e⟩
     ·rintro (h | ⟨h,y,hy,e1,e2⟩)
      ·exact .inl h
      ·rcases List.mem_cons.mp hy with e | hy
       ·subst e;exact absurd e2.symm z
       ·exact .inr ⟨h,y,hy,e1,e2⟩
   ·rw [h3 n,aget_aset]
    by_cases z:n=nmOf rs x
    ·subst z
     have:nmOf rs x∈fr':=(h2 _).mpr (.inl (List.mem_append_right _ (.head _)))
     rw [if_neg fun w=>w.2 (List.mem_append_right _ (.head _)),if_pos rfl,if_pos ⟨this,hx⟩]
    ·rw [if_neg z]
     by_cases w:n∈fr'∧n∉fr
     ·rw [if_pos w,if_pos ⟨w.1,fun y=>by
       rcases List.mem_append.mp y with y | y
       ·exact w.2 y
       ·rw [List.mem_singleton] at y;exact z y⟩]
     ·rw [if_neg w,if_neg fun y=>w ⟨y.1,fun v=>y.2 (List.mem_append_left _ v)⟩]
  ·rw [if_neg q] at e
   obtain ⟨h1,h2,h3,h4,h5⟩:=bk_all r T fr hn hf T' fr' e
   refine ⟨h1,fun n=>?_,h3,h4,by simp;exact om244 h5⟩
   rw [h2 n]
   constructor
   ·rintro (h | ⟨h,y,hy,e⟩)
    ·exact .inl h
    ·exact .inr ⟨h,y,.tail _ hy,e⟩
   ·rintro (h | ⟨h,y,hy,e1,e2⟩)
    ·exact .inl h
    ·rcases List.mem_cons.mp hy with e | hy
     ·subst e;exact absurd ⟨e1,e2▸h⟩ q
     ·exact .inr ⟨h,y,hy,e1,e2⟩
structure Bk (rs:List Rule) (V:List Int) (P:Int→List Int) (t:Nat) (Out D rd:List Int) (T:List (Int×Int)):Prop where
 ki:KI V P Out D rd
 tk:∀ n,n∈D↔(aget T n).isSome
 em:∀ n,aget T n=aget (emAt rs t) n
 outR:∀ x∈Out,x < 0→nmOf rs x∈D
 kn:(T.map (·.1)).Nodup
 dn:∀ n∈D,n∈four
theorem Bk.start:Bk rs V P 0 [] [] (V.filter fun k=>decide (P k=[])) []:=⟨KI.start S.sg,fun n=>⟨nofun,nofun⟩,fun n=>rfl,nofun,List.nodup_nil,nofun⟩
omit S in
theorem emTurn_get {E:List (Int×Int)} {t:Nat} {n:Int}:aget (emTurn rs E t) n=if n∈emFresh rs E then some (t:Int) else aget E n:=by
 unfold emTurn
 generalize emFresh rs E=fr
 induction fr generalizing E with
 | nil=>simp
 | cons x r ih =>
  rw [List.foldl_cons,ih,aget_aset]
  by_cases q:n∈r
  ·simp [q]
  ·by_cases z:n=x
   ·subst z;simp
   ·simp [q,z]
omit S in
theorem emFresh_mem {E:List (Int×Int)} {n:Int}:n∈emFresh rs E↔aget E n=none∧∃ r∈rs,r.1=n∧∀ x∈r.2,(aget E x).isSome:=by
 unfold emFresh
 rw [List.mem_map]
 constructor
 ·rintro ⟨r,hr,rfl⟩
  rw [List.mem_filter,Bool.and_eq_true,List.all_eq_true] at hr
  exact ⟨by simpa using hr.2.1,r,hr.1,rfl,hr.2.2⟩
 ·rintro ⟨h,r,hr,rfl,h2⟩
  refine ⟨r,List.mem_filter.mpr ⟨hr,?_⟩,rfl⟩
  rw [Bool.and_eq_true,List.all_eq_true]
  exact ⟨by rw [h];rfl,h2⟩
omit S in
theorem emAt_succ' (n:Nat):emAt rs (n+1)=emTurn rs (emAt rs n) n:=by
 unfold emAt;rw [List.range_succ,List.foldl_append];rfl
theorem Bk.step (G:Gram ops rs) {t:Nat} {Out D rd:List Int} {T T':List (Int×Int)} {fr:List Int} (b:Bk rs V P t Out D rd T) (e:rd.foldl (bkStep rs t) (T,[])=(T',fr)) :
  fr.Nodup∧(∀ k∈fr,k∈Out++rd∧k∉D)∧∃ rd',doneS (gOut (mkG V (npI P Out D) su) rd,[]) fr=(mkG V (npI P (Out++rd) (fr.reverse++D)) su,rd')∧Bk rs V P (t+1) (Out++rd) (fr.reverse++D) rd' T':=by
 obtain ⟨h1,h2,h3,h4,_⟩:=bk_all rd T [] List.nodup_nil nofun T' fr e
 obtain ⟨e1,k1⟩:=b.ki.out (su:=su)
 have hnone:∀ n,aget T n=none↔n∉D:=fun n=>by
  rw [b.tk n]
  cases aget T n <;> simp
 have hrule:∀ x∈V,x < 0→∃ (k:Nat) (r:Rule),rs[k]?=some r∧x=-1 - (k:Int)∧(∀ y∈r.2,256≤y)∧nmOf rs x=r.1∧P x=r.2:=fun x hx hneg=>by
  rcases (S.mem x).mp hx with z | ⟨k,r,h1,rfl,h2⟩
  ·have:=(four_isNm z).1;omega
  ·refine ⟨k,r,h1,rfl,h2,?_,S.pr k r h1 h2⟩
   unfold nmOf
   rw [show (-1 - (-1 - (k:Int))).toNat=k by exact om72 hneg,List.getD_eq_getElem?_getD,h1];rfl
 have hfr:∀ n,n∈fr↔n∈emFresh rs (emAt rs t):=fun n=>by
  rw [h2 n,emFresh_mem,←b.em n]
  constructor
  ·rintro (z | ⟨z,x,hx,hneg,hnm⟩)
   ·cases z
   ·obtain ⟨hV,_,hP⟩:=(b.ki.rdi x).mp hx
    obtain ⟨k,r,h1,_,_,h5,h6⟩:=hrule x hV hneg
    refine ⟨z,r,List.mem_of_getElem? h1,h5▸hnm,fun y hy=>?_⟩
    rw [←b.em y,←b.tk y]
    exact hP y (h6▸hy)
  ·rintro ⟨z,r,hr,hnm,hy⟩
   refine .inr ⟨z,?_⟩
   obtain ⟨k,hk⟩:=List.mem_iff_getElem?.mp hr
   have hD:∀ y∈r.2,y∈D:=fun y hy'=>(b.tk y).mpr (by rw [b.em y];exact hy y hy')
   have h256:∀ y∈r.2,256≤y:=fun y hy'=>(four_isNm (b.dn y (hD y hy'))).1
   have hV:-1 - (k:Int)∈V:=(S.mem _).mpr (.inr ⟨k,r,hk,rfl,h256⟩)
   have hnm':nmOf rs (-1 - (k:Int))=n:=by
    unfold nmOf
    rw [show (-1 - (-1 - (k:Int))).toNat=k by exact om80,List.getD_eq_getElem?_getD,hk];exact hnm
   refine ⟨-1 - (k:Int),(b.ki.rdi _).mpr ⟨hV,fun ho=>?_,fun p hp=>?_⟩,om71,hnm'⟩
   ·have:=b.outR _ ho (om71)
    rw [hnm'] at this
    exact (hnone n).mp z this
   ·rw [S.pr k r hk h256] at hp;exact hD p hp
 have hf4:∀ n∈fr,n∈four:=fun n hn=>by
  obtain ⟨_,r,hr,rfl,_⟩:=emFresh_mem.mp ((hfr n).mp hn)
  exact isNm_four (G.hd r hr)
 have hfO:∀ k∈fr,k∈Out++rd∧k∉D:=fun k hk=>by
  rcases (h2 k).mp hk with z | ⟨z,_⟩
  ·cases z
  ·refine ⟨?_,(hnone k).mp z⟩
   by_cases q:k∈Out
   ·exact List.mem_append_left _ q
   ·refine List.mem_append_right _ ((b.ki.rdi k).mpr ⟨(S.mem k).mpr (.inl (hf4 k hk)),q,fun p hp=>?_⟩)
    rw [S.p4 k (hf4 k hk)] at hp;cases hp
 obtain ⟨rd',e2,k2,_⟩:=k1.doneS S.sg fr h1 hfO
 refine ⟨h1,hfO,rd',by rw [e1,e2],k2,fun n=>?_,fun n=>?_,fun x hx hneg=>?_,h4 b.kn,fun n hn=>?_⟩
 ·rw [List.mem_append,List.mem_reverse,h3 n,b.tk n]
  by_cases q:n∈fr
  ·simp [q]
  ·simp [q]
 ·rw [h3 n,emAt_succ',emTurn_get,b.em n]
  by_cases q:n∈fr
  ·rw [if_pos ⟨q,nofun⟩,if_pos ((hfr n).mp q)]
  ·rw [if_neg fun z=>q z.1,if_neg fun z=>q ((hfr n).mpr z)]
 ·rw [List.mem_append,List.mem_reverse]
  rcases List.mem_append.mp hx with hx | hx
  ·exact .inr (b.outR x hx hneg)
  ·by_cases q:nmOf rs x∈D
   ·exact .inr q
   ·exact .inl ((h2 _).mpr (.inr ⟨(hnone _).mpr q,x,hx,hneg,rfl⟩))
 ·rcases List.mem_append.mp hn with z | z
  ·exact hf4 n (List.mem_reverse.mp z)
  ·exact b.dn n z
omit S in
theorem emAt_nodup:∀ n,((emAt rs n).map (·.1)).Nodup
 | 0=>List.nodup_nil
 | n+1=>by
  rw [emAt_succ']
  unfold emTurn
  have ih:=emAt_nodup n
  generalize emFresh rs (emAt rs n)=fr
  generalize emAt rs n=E at ih
  induction fr generalizing E with
  | nil=>exact ih
  | cons x r ihr=>exact ihr _ (aset_nodup ih _ _)
omit S in
theorem emAt_four (G:Gram ops rs):∀ n,∀ k∈(emAt rs n).map (·.1),k∈four
 | 0,k,h=>by cases h
 | n+1,k,h=>by
  rw [←aget_some,emAt_succ',emTurn_get] at h
  split at h
  ·rename_i q
   obtain ⟨_,r,hr,rfl,_⟩:=emFresh_mem.mp q
   exact isNm_four (G.hd r hr)
  ·exact emAt_four G n k (aget_some.mp h)
omit S in
theorem emAt_grow:∀ n,emFresh rs (emAt rs n)=[]∨n+1≤(emAt rs (n+1)).length:=by
 have lt:∀ n,emFresh rs (emAt rs n)≠[]→(emAt rs n).length+1≤(emAt rs (n+1)).length:=fun n h=>by
  obtain ⟨x,hx⟩:=List.exists_mem_of_ne_nil _ h
  have hxn:=(emFresh_mem.mp hx).1
  have:(x :: (emAt rs n).map (·.1)).length≤((emAt rs (n+1)).map (·.1)).length:=nodup_len (List.nodup_cons.mpr ⟨aget_none.mp hxn,emAt_nodup n⟩) fun y hy=>by
   rw [←aget_some,emAt_succ',emTurn_get]
   rcases List.mem_cons.mp hy with e | hy
   ·subst e;rw [if_pos hx];rfl
   ·split
    ·rfl
    ·exact aget_some.mpr hy
  simpa using this
 intro n
 induction n with
 | zero =>
  by_cases h:emFresh rs (emAt rs 0)=[]
  ·exact .inl h
  ·exact .inr (by have:=lt 0 h;exact om171 this)
 | succ n ih =>
  by_cases h:emFresh rs (emAt rs (n+1))=[]
  ·exact .inl h
  ·have h1:=lt _ h
   rcases ih with ih | ih
   ·have:emAt rs (n+1)=emAt rs n:=by rw [emAt_succ'];unfold emTurn;rw [ih];rfl
    rw [this] at h;exact absurd ih h
   ·exact .inr (om236 h1 ih)
omit S in
theorem emAt_five (G:Gram ops rs):emAt rs 5=emAt rs 4:=by
 rcases emAt_grow (rs:=rs) 4 with h | h
 ·rw [emAt_succ'];unfold emTurn;rw [h];rfl
 ·have:((emAt rs 5).map (·.1)).length≤four.length:=nodup_len (emAt_nodup 5) (emAt_four G 5)
  simp at this h
  omega
omit S in
theorem Bk.turns (G:Gram ops rs) {Out D rd:List Int} {T:List (Int×Int)} (b:Bk rs V P 5 Out D rd T):SameD T (emAt rs 4)∧∀ n,aget T n=aget (emAt rs 4) n:=by
 have h:∀ n,aget T n=aget (emAt rs 4) n:=fun n=>by rw [b.em n,emAt_five G]
 exact ⟨sameD_of b.kn (emAt_nodup 4) h,h⟩
end
end Mine
end
section
namespace Mine
theorem sortI_mem {xs:List Int} {y:Int}:y∈sortI xs↔y∈xs:=(sortI_perm xs).mem_iff
theorem starts_mem {f:FMap} {n y:Int}:y∈startsOf f n↔y∈f n∧y < 256:=by
 unfold startsOf
 rw [List.mem_filter];simp
theorem Clo.flat {H f:FMap} (C:Clo H f) {x:Int}:∀ y,y∈(H x).flatMap (Sx f)↔y∈startsOf f x:=fun y=>by
 rw [List.mem_flatMap,starts_mem]
 constructor
 ·rintro ⟨h,hh,hy⟩
  have hx:h∈f x:=(C.iff _ _).mpr (.one hh)
  unfold Sx at hy
  split at hy
  ·rename_i q
   rw [List.mem_singleton] at hy;subst hy;exact ⟨hx,q⟩
  ·rw [sortI_mem,starts_mem] at hy
   exact ⟨C.tr hx hy.1,hy.2⟩
 ·rintro ⟨h1,h2⟩
  cases (C.iff _ _).mp h1 with
  | one h=>exact ⟨y,h,by unfold Sx;rw [if_pos h2];exact .head _⟩
  | step h r =>
   rename_i z
   have hz:=C.nm z r.head
   refine ⟨z,h,?_⟩
   unfold Sx
   rw [if_neg (by have:=hz.1;exact om25 this),sortI_mem,starts_mem]
   exact ⟨(C.iff _ _).mpr r,h2⟩
theorem starts_op {ops:List Int} {f:FMap} (inv:FrInv ops f) {x y:Int} (h:y∈startsOf f x):y∈ops:=by
 obtain ⟨h1,h2⟩:=starts_mem.mp h
 rcases inv.el x y h1 with q | q
 ·have:=q.1;omega
 ·exact q
theorem starts_nd {ops:List Int} {f:FMap} (inv:FrInv ops f) (x:Int):(startsOf f x).Nodup:=(inv.nd x).sublist List.filter_sublist
theorem toldL_snoc {f:FMap} {l:List Int} {x:Int} (h:x∉l):aset (toldL f l) x (chainN 5 f x,Sx f x)=toldL f (l++[x]):=by
 unfold aset
 rw [if_neg]
 ·unfold toldL;simp
 ·rw [Bool.not_eq_true,List.any_eq_false]
  intro p hp
  obtain ⟨z,hz,rfl⟩:=List.mem_map.mp hp
  simp
  exact fun q=>h (q▸hz)
end Mine
end
section
set_option maxHeartbeats 400000
namespace Mine
noncomputable def tokIs (p:Params) (i:Nat):Bool:=match nsIn (KP p) 142 (symS (7+(i:Int))) with
 | some (some (.int k _))=>k == 7+(i:Int)
 | _=>false
theorem tok_all (p:Params):(List.range 48).all (tokIs p)=true:=by kernel_rfl
theorem tok_at (p:Params) {n:Int} (h:IsOp n):∃ t,nsIn (KP p) 142 (symS n)=some (some (.int n t)):=by
 have h1:=List.all_eq_true.mp (tok_all p) (n - 7).toNat (List.mem_range.mpr (by have:=h.1;have:=h.2;exact om28 ‹_› this))
 unfold tokIs at h1
 rw [show 7+(((n - 7).toNat:Nat):Int)=n by have:=h.1;exact om26 this] at h1
 split at h1
 ·rename_i k t e
  have:k=n:=by simpa using h1
  subst this
  exact ⟨t,e⟩
 ·cases h1
theorem k142 (p:Params):∃ es n,(KP p).lookup 142=some ⟨.type "dict",none,.dict es n,#[]⟩∧KeysLit p es.toList:=⟨_,_,rfl,by k_keys⟩
section
variable {G:GC} {A:Around} {σ:Sig} {Q:SV→Sig→Prop}
theorem type142:∀ F s v,St G.c F σ s→VRel F (.lit (.ref 142)) v→s.TypeIs v "dict":=fun F s v H r=>by
 obtain ⟨es,n,hl,_⟩:=k142 G.w.params
 have:v=.ref 142:=r
 subst this
 exact ⟨_,H.kin _ _ hl,rfl⟩
theorem G_tok {n:Int} (h:IsOp n) (q:Q (.d (.int n)) σ):T2 G.c VRel A getItem (.lit (.ref 142)) (.d (.str (symS n))) σ Q:=.mk fun F s E v u H r1 r2=>by
 have:v=.ref 142:=r1
 subst this
 obtain ⟨es,m,hl,hk⟩:=k142 G.w.params
 obtain ⟨t,e⟩:=tok_at G.w.params h
 have hm:s.heap.MapOf (strKind G.prog G.w) 142 (fun k=>findBy Value.isStrOf es k):=mapOf_K H.kin hl hk
 have S:=H.tok (s.toks+1)
 exact wpAny_getItem_of (KeyR.str (c:=G.c) F u r2) hm (find_K hl e) ⟨F,σ,.d (.int n),rel_int _ t,S.1,S.2,q⟩
end
section
variable {c:Cfg} {A:Around} {σ:Sig} {Q:SV→Sig→Prop}
theorem O_isNotB {a b:Bool} (h:Q (.d (.bool (a != b))) σ):T2 c VRel A (compareOp .IsNot) (.d (.bool a)) (.d (.bool b)) σ Q:=.mk fun F s E v u H r1 r2=>by
 have e1:v=.bool a:=by simpa only [VRel,RD] using r1
 have e2:u=.bool b:=by simpa only [VRel,RD] using r2
 subst e1;subst e2
 refine wpAny_isNot_plain rfl ?_
 have:(!(Value.bool a == Value.bool b))=(a != b):=by cases a <;> cases b <;> rfl
 rw [this]
 exact post_bool H _ h
theorem O_neB {n:Nat} {a b:Bool} (R:Rm n A) (h:Q (.d (.bool (a != b))) σ):T2 c VRel A (compareOp .NotEq) (.d (.bool a)) (.d (.bool b)) σ Q :=
 O_neD R rfl rfl (by rw [show (!PyData.eqv (.bool a) (.bool b))=(a != b) from rfl];exact h)
theorem keq_hits {F:FM} {s:Shared} {kv2:List (Int×Value)} {k2:List (Int×PyData)} {A':Around} (hu:A'.units+64 < cLine) (fz:∀ a o,F a=some o→s.heap.get? a=some o) (p2:Paired (KV F) (k2.map fun p=>(p.1,SV.d p.2)) kv2) :
  ∀ {k1:List (Int×PyData)} {kv1:List (Int×Value)},Paired (KV F) (k1.map fun p=>(p.1,SV.d p.2)) kv1→(∀ p∈k1,aget k2 p.1=some p.2)→(∀ p∈k1,SeqAt.shaped p.2=true)→KeqHits A' s kv2 kv1 true
 | [],_,.nil,_,_=>.nil
 | p :: r,_,.cons (b:=q) a t,hg,hs=>by
  obtain ⟨q1,q2⟩:=q
  obtain ⟨e1,r1⟩:=a
  have e1:p.1=q1:=e1
  subst e1
  have hg1:sget (k2.map fun p=>(p.1,SV.d p.2)) p.1=some (SV.d p.2):=by
   have:=hg p (.head _)
   unfold aget at this
   unfold sget
   rw [List.find?_map,Option.map_map]
   obtain ⟨q,e1,e2⟩:=Option.map_eq_some_iff.mp this
   rw [show (List.find? ((fun p_1:Int×SV=>decide (p_1.1=p.1)) ∘ fun p:Int×PyData=>(p.1,SV.d p.2)) k2)=some q from e1]
   simp [e2]
  obtain ⟨y,ey,ry⟩:=ov_some (hg1▸paired_sget (k:=p.1) p2)
  obtain ⟨as,x1⟩:=RD.reads fz r1
  obtain ⟨bs,x2⟩:=RD.reads fz ry
  have hsp:=hs p (.head _)
  have he:SeqAt.EqAt A' s q2 y true:=by
   have:=SeqAt.eqAt_reads p.2 p.2 A' s q2 y as bs x1 x2 (SeqAt.canLay_of_shaped hsp) (SeqAt.canLay_of_shaped hsp) (SeqAt.room_of_shaped hsp hu)
   rw [SeqAt.eqv_refl p.2 (SeqAt.canLay_of_shaped hsp)] at this
   exact this
  have:=KeqHits.hit (A:=A') (s:=s) (kb:=kv2) (k:=p.1) (v:=q2) (r:=_) ey he (keq_hits hu fz p2 t (fun p' hp'=>hg p' (.tail _ hp')) fun p' hp'=>hs p' (.tail _ hp'))
  exact this
theorem O_neDict {n:Nat} {d1 d2:Addr} {k1 k2:List (Int×PyData)} (R:Rm n A) (h1:DictR c (intKind c.prog c.w) σ d1 (k1.map fun p=>(p.1,SV.d p.2))) (h2:DictR c (intKind c.prog c.w) σ d2 (k2.map fun p=>(p.1,SV.d p.2)))
  (hl:SameD k1 k2) (hs:∀ p∈k1,SeqAt.shaped p.2=true) (h:Q (.d (.bool false)) σ):T2 c VRel A (compareOp .NotEq) (.ref d1) (.ref d2) σ Q:=.mk fun F s E v u H r1 r2=>by
 have e1:v=.ref d1:=r1
 have e2:u=.ref d2:=r2
 subst e1;subst e2
 obtain ⟨⟨kv1,D1,p1⟩,m1⟩:=h1 F s H
 obtain ⟨⟨kv2,D2,p2⟩,m2⟩:=h2 F s H
 have l1:=p1.length
 have l2:=p2.length
 rw [List.length_map] at l1 l2
 refine keq_ne m1 m2 D1 D2 (R.u 0 (om2)) (r:=true) (fun _=>?_) ?_
 ·exact keq_hits (by have:=R.units;show A.units+1+64 < cLine;unfold cLine;exact om157 this) H.fz p2 p1 hl.get hs
 ·have:(kv1.length == kv2.length)=true:=by rw [←l1,←l2,hl.len];simp
  rw [this]
  exact post_bool H _ h
end
end Mine
end
section
set_option maxHeartbeats 400000
namespace Mine
noncomputable def lawFd (p:Params):Option FuncData:=match (KP p).lookup 211 with
 | some ⟨_,_,.func fd,_⟩=>some fd
 | _=>none
noncomputable def lawBody (p:Params):List Stmt:=match lawFd p with
 | some fd=>(match fd.body with
  | .stmts b=>b
  | _=>[])
 | none=>[]
noncomputable def lawScope (p:Params):Scope:=match lawFd p with
 | some fd=>fd.scope
 | none=>default
noncomputable def lawS (p:Params) (i:Nat):Stmt:=(lawBody p).getD i (.Pass default)
theorem lawBody_eq (p:Params):lawBody p=(List.range 28).map (lawS p):=by rfl
noncomputable def csLaw (L:Addr):List (Str×Addr):=[(Str.ofString "empties",L+4),(Str.ofString "told",L+3),(Str.ofString "ring",L+2),(Str.ofString "heads",L+1)]
theorem eqv {α:Sort _} {Φ:α→Prop} {a a':α} (h:a=a') (x:Φ a'):Φ a:=by subst h;exact x
noncomputable abbrev lawEnv (sc:Scope) (L f:Addr) (cd:Value):Env:=envOfC (Str.ofString "law") sc L f cd
noncomputable def Sh (σ:Sig) (L:Addr) (l:List (Str×SV)) (σ':Sig):Prop:=∃ m,Fits l m∧σ'=fr σ L (csLaw L) m
theorem execs_app (env:Env):∀ (l1 l2:List Stmt),execs (l1++l2) env=execs l1 env >>= fun f=>(match f with | .next=>execs l2 env | f=>pure f)
 | [],l2=>by
  show execs l2 env=pure Flow.next >>= _
  rw [pure_bind]
 | s :: r,l2=>by
  have ih:=execs_app env r l2
  show (exec s env >>= fun f=>(match f with | .next=>execs (r++l2) env | f=>pure f))=(exec s env >>= fun f=>(match f with | .next=>execs r env | f=>pure f)) >>= _
  rw [bind_assoc]
  congr 1
  funext f
  cases f with
  | next=>exact ih
  | brk=>rw [pure_bind]
  | cont=>rw [pure_bind]
  | ret v=>rw [pure_bind]
theorem T_app {c:Cfg} {A:Around} {env:Env} {σ:Sig} {l1 l2:List Stmt} {Q:SFlow→Sig→Prop} (P:Sig→Prop) (h1:TF c A (execs l1 env) σ (NxP P)) (h2:∀ σ1,P σ1→TF c A (execs l2 env) σ1 Q):TF c A (execs (l1++l2) env) σ Q:=by
 rw [execs_app]
 refine .mk fun F s E H=>wpAny_bind (h1.wp H fun f s1 F1 σ1 x r1 H1 X1 q1=>?_)
 cases x with
 | next=>cases r1;exact wpAny_mono ((h2 σ1 q1).run F1 s1 E H1) (fun _ _ p=>p.lift X1) fun _ _ e=>e
 | _=>exact q1.elim
noncomputable abbrev nScript:=Str.ofString "script"
noncomputable abbrev nRules:=Str.ofString "rules"
noncomputable abbrev nRead:=Str.ofString "read"
noncomputable abbrev readD (rs:List Rule):PyData:=.list (rs.map fun r=>.list ((r.1 :: r.2).map PyData.int))
noncomputable def frL0 (w:Addr):List (Str×SV):=[(nScript,.ref w)]
noncomputable def frL1 (rs:List Rule):List (Str×SV):=[(nRules,.d (.list (rs.map ruleD)))]
noncomputable def frL2 (rs:List Rule) (a:Addr):List (Str×SV):=[(nRules,.d (.list (rs.map ruleD))),(Str.ofString "numbers",.ref a)]
noncomputable def frL2b (rs:List Rule) (a:Addr) (r:Rule):List (Str×SV):=[(nRules,.d (.list (rs.map ruleD))),(Str.ofString "numbers",.ref a),(Str.ofString "name",.d (.str (symS r.1))),(Str.ofString "body",.d (bodyD r.2))]
noncomputable def numsR (r:Rule):List Int:=(r.1 :: r.2)++[0]
noncomputable def frL3 (rs:List Rule):List (Str×SV):=[(nRules,.d (.list (rs.map ruleD))),(Str.ofString "numbers",.d (.list ((rs.flatMap numsR).map PyData.int)))]
section
variable {G:GC} {A:Around} {σ:Sig} {n:Nat} {L f:Addr} {cd:Value}
theorem seg0 {w:Addr} {vs:List Value} {ns:List Int} (R:Rm (n+2) A) (hw:G.h₀.IsList w vs.toArray) (hI:IntsAre vs ns) :
  TF G.c A (execs [lawS G.w.params 0] (lawEnv (lawScope G.w.params) L f cd)) (fr σ L (csLaw L) (mkm (frL0 w))) (NxP fun σ'=>∃ ops rs,Gram ops rs∧Sh σ L (frL1 rs) σ'):=by
 refine eqv (Φ:=fun sc=>TF G.c A (execs _ (lawEnv sc L f cd)) _ _) (a':=⟨_,_,_,_,_⟩) rfl ?_
 refine T_cons (eqv (Φ:=fun st=>TF G.c A (exec st _) _ _) (a':=.Assign _ _ _) rfl ?_)
 exact t_as (t_callG (v:=.ref 177) rfl rfl (t_a1 (t_loc rfl (W_rules R hw hI fun ops rs g=>t_st (Nx.next (T_nil ⟨ops,rs,g,_,⟨rfl,trivial⟩,rfl⟩))))))
theorem T_ifv {c:Cfg} {t b o:Expr} {pos:Pos} {env:Env} {v:SV} {Q:SV→Sig→Prop} (h:TB c A (PySem.isTrue t env (eval t env)) σ (fun z σ1=>(z=true→TV c A (eval b env) σ1 (fun x σ2=>x=v∧σ2=σ))∧(z=false→TV c A (eval o env) σ1 (fun x σ2=>x=v∧σ2=σ)))) (q:Q v σ):TV c A (eval (.IfExp t b o pos) env) σ Q :=
 T_ifexp (h.mono fun z σ1 w=>⟨fun hz=>(w.1 hz).mono fun x σ2 ⟨e1,e2⟩=>by subst e1;subst e2;exact q,fun hz=>(w.2 hz).mono fun x σ2 ⟨e1,e2⟩=>by subst e1;subst e2;exact q⟩)
theorem numsR_len {ops:List Int} {rs:List Rule} (g:Gram ops rs) (i:Nat):((rs.take i).flatMap numsR).length≤5 * i:=by
 have hb:∀ r∈rs.take i,r.2.length≤3:=fun r hr=>g.bl r (List.mem_of_mem_take hr)
 have hl:(rs.take i).length≤i:=by rw [List.length_take];exact om154
 generalize rs.take i=l at hb hl
 clear g
 induction l generalizing i with
 | nil=>simp
 | cons r t ih =>
  have h1:=ih (i - 1) (fun r hr=>hb r (.tail _ hr)) (by simp at hl;exact om160 hl)
  have h2:=hb r (.head _)
  rw [List.flatMap_cons,List.length_append]
  simp only [List.length_cons] at hl
  have h3:(numsR r).length=r.2.length+2:=by simp [numsR]
  exact om315 hl h1 h2 h3
theorem seg12 {ops:List Int} {rs:List Rule} (R:Rm (n+2) A) (g:Gram ops rs) (ok:FrOk σ L (csLaw L)) :
  TF G.c A (execs [lawS G.w.params 1,lawS G.w.params 2] (lawEnv (lawScope G.w.params) L f cd)) (fr σ L (csLaw L) (mkm (frL1 rs))) (NxP fun σ'=>Sh σ L (frL3 rs) σ'):=by
 refine eqv (Φ:=fun sc=>TF G.c A (execs _ (lawEnv sc L f cd)) _ _) (a':=⟨_,_,_,_,_⟩) rfl ?_
 refine T_cons (eqv (Φ:=fun st=>TF G.c A (exec st _) _ _) (a':=.Assign _ _ _) rfl ?_)
 refine t_as (t_list0 ok fun a N=>t_st (Nx.next ?_))
 have haσ:=N.free
 replace ok:=N.ok
 clear N
 refine t_fit (frL2 rs a) ⟨rfl,rfl,trivial⟩ ?_
 refine T_cons (eqv (Φ:=fun st=>TF G.c A (exec st _) _ _) (a':=.For _ _ _ _ _) rfl ?_)
 refine t_for (t_loc rfl ⟨_,fun i σ'=>σ'=fr (upd σ a (some (.list (intsL ((rs.take i).flatMap numsR))))) L (csLaw L) (mkm (frL2 rs a)),it_list (xs:=rs.map fun r=>.d (ruleD r)) R (.inr ⟨_,rfl,by simp⟩) (.inr ⟨⟨_,_,_,rfl⟩,fun y hy=>?_⟩),rfl,?_,?_⟩)
 ·obtain ⟨r,_,rfl⟩:=List.mem_map.mp hy;exact ⟨_,rfl⟩
 ·rintro i y σ' hy rfl
  rw [List.getElem?_map] at hy
  obtain ⟨r,hr,rfl⟩:=Option.map_eq_some_iff.mp hy
  have hrm:=List.mem_of_getElem? hr
  have hi:i < 6:=by rw [←g.len];exact (List.getElem?_eq_some_iff.mp hr).1
  refine T_assTup R ⟨_,rfl,rfl⟩ (t_asN (t_asN ?_)) rfl rfl rfl
  refine t_fit (frL2b rs a r) ⟨rfl,rfl,rfl,rfl,trivial⟩ (opF fun P1 i1=>?_)
  have ok:FrOk (upd σ a (some (.list (intsL ((rs.take i).flatMap numsR))))) L (csLaw L):=ok.re
  have hsy:∀ x∈r.1 :: r.2,IsSym x:=fun x hx=>by
   rcases List.mem_cons.mp hx with e | hx
   ·subst e;exact .inl (g.hd r hrm)
   ·exact (g.sy r hrm x hx).imp id (g.op x)
  have hbl:=g.bl r hrm
  have hnl:=numsR_len g i
  refine T_consP (fun σ1=>σ1=fr (upd σ a (some (.list (intsL ((rs.take i).flatMap numsR++(r.1 :: r.2)))))) L (csLaw L) (mkm (frL2b rs a r))) (t_for (T_bin (T_listF (T_spl_cons (t_loc rfl (T_spl_nil ⟨[.str (symS r.1)],rfl,by simp,t_loc rfl ?_⟩)) rfl)))) ?_
  ·refine O_concatF (ds:=[.str (symS r.1)]) (es:=r.2.map fun n=>.str (symS n)) .d .d (by simp;exact om101 hbl) ?_
   rw [show [PyData.str (symS r.1)]++r.2.map (fun n=>PyData.str (symS n))=(r.1 :: r.2).map (fun n=>PyData.str (symS n)) from rfl]
   refine ⟨_,fun j σ'=>σ'=fr (upd σ a (some (.list (intsL ((rs.take i).flatMap numsR++(r.1 :: r.2).take j))))) L (csLaw L) (mkm (frL2b rs a r)),it_syms R ⟨_,_,rfl⟩,by simp,?_,?_⟩
   ·rintro j z σ' hz rfl
    rw [List.getElem?_map] at hz
    obtain ⟨x,hx,rfl⟩:=Option.map_eq_some_iff.mp hz
    have hxS:=hsy x (List.mem_of_getElem? hx)
    have hj:j < (r.1 :: r.2).length:=(List.getElem?_eq_some_iff.mp hx).1
    have ok:FrOk (upd σ a (some (.list (intsL ((rs.take i).flatMap numsR++(r.1 :: r.2).take j))))) L (csLaw L):=ok.re
    refine t_asN (opF fun P2 i2=>T_cons (t_ex (t_meth m_append (t_loc rfl ⟨oft_list (.ref (fr_some ok (upd_self ..))),t_a1 (T_ifv (v:=.d (.int x)) ?_ ?_)⟩))))
    ·refine t_isCmp (t_loc rfl (T_str (O_inT (truth_bool ⟨fun hb=>?_,fun hb=>?_⟩))))
     ·rcases hxS with hk | hk
      ·refine T_bin (t_globI rfl (t_meth m_indexS (T_str ⟨oft_str,t_a1 (t_loc rfl (O_index (nm_occ hk) (O_add ⟨?_,rfl⟩)))⟩)))
       rw [show (256:Int)+(((x - 256).toNat:Nat):Int)=x by obtain ⟨h1,h2⟩:=hk;exact om20 h1 h2]
      ·rw [show Builtin.Str.occurrences (Str.ofString "ABCD") (symS x) 0 (Str.ofString "ABCD").length 1=[] from (op_all hk).1] at hb
       cases hb
     ·rcases hxS with hk | hk
      ·rw [show Builtin.Str.occurrences (Str.ofString "ABCD") (symS x) 0 (Str.ofString "ABCD").length 1=[_] from nm_occ hk] at hb
       cases hb
      ·exact t_sub slot_dict_getitem.lookup (t_glob rfl (t_loc rfl ⟨type142,G_tok hk ⟨rfl,rfl⟩⟩))
    ·refine o_append ok (upd_self ..) (by simp only [intsL,List.length_map,List.length_append,List.length_take];simp only [List.length_cons] at hj ⊢;exact om304 hi hbl hnl hj) fun ok'=>Nx.next (t_fit (frL2b rs a r) ⟨rfl,rfl,rfl,rfl,trivial⟩ (T_nil (i2 _ ?_)))
     rw [upd_upd]
     congr 2
     rw [List.take_add_one,hx]
     simp [intsL]
   ·rintro σ' rfl
    refine NxP.next ?_
    rw [List.length_map,List.take_length]
  ·rintro σ1 rfl
   have ok:FrOk (upd σ a (some (.list (intsL ((rs.take i).flatMap numsR++(r.1 :: r.2)))))) L (csLaw L):=ok.re
   refine T_cons (t_ex (t_meth m_append (t_loc rfl ⟨oft_list (.ref (fr_some ok (upd_self ..))),t_a1 (t_globI rfl ?_)⟩)))
   refine o_append ok (upd_self ..) (by simp only [intsL,List.length_map,List.length_append,List.length_cons];exact om267 hi hbl hnl) fun ok'=>Nx.next (t_fit (frL2 rs a) ⟨rfl,rfl,trivial⟩ (T_nil (i1 _ ?_)))
   rw [upd_upd]
   congr 2
   rw [List.take_add_one,hr]
   simp [intsL,numsR]
 ·rintro σ' rfl
  rw [List.length_map,List.take_length]
  have ok:FrOk (upd σ a (some (.list (intsL (rs.flatMap numsR))))) L (csLaw L):=ok.re
  refine Nx.next (t_freeze (ds:=(rs.flatMap numsR).map PyData.int) (frL3 rs) ok (by rw [upd_self];simp) ⟨.inl rfl,.inr ⟨rfl,rfl⟩,trivial⟩ fun ok=>?_)
  rw [upd_upd,upd_id haσ]
  exact T_nil (NxP.next ⟨_,⟨rfl,rfl,trivial⟩,rfl⟩)
end
end Mine
end
section
set_option maxHeartbeats 400000
namespace Mine
noncomputable def parseS (st:List (List Int)×List Int) (x:Int):List (List Int)×List Int:=if x=0 then (st.1++[st.2],[]) else (st.1,st.2++[x])
theorem parse_body:∀ (b:List Int) (R:List (List Int)) (cur:List Int),(∀ x∈b,x≠0)→b.foldl parseS (R,cur)=(R,cur++b):=fun l=>by
 induction l with
 | nil=>exact fun R cur _=>by simp
 | cons x r ih =>
  intro R cur h
  rw [List.foldl_cons]
  have:parseS (R,cur) x=(R,cur++[x]):=by unfold parseS;rw [if_neg (h x (.head _))]
  rw [this,ih R (cur++[x]) fun y hy=>h y (.tail _ hy)]
  simp
theorem parse_all:∀ (rs:List Rule) (R:List (List Int)),(∀ r∈rs,∀ x∈r.1 :: r.2,x≠0)→(rs.flatMap numsR).foldl parseS (R,[])=(R++rs.map fun r=>r.1 :: r.2,[]):=fun l=>by
 induction l with
 | nil=>exact fun R _=>by simp
 | cons r t ih =>
  intro R h
  rw [List.flatMap_cons,List.foldl_append]
  have e:(numsR r).foldl parseS (R,[])=(R++[r.1 :: r.2],[]):=by
   unfold numsR
   rw [List.foldl_append,parse_body _ R [] (h r (.head _))]
   simp [parseS]
  rw [e,ih _ fun r' h'=>h r' (.tail _ h')]
  simp
theorem parse_len:∀ (xs:List Int) (st:List (List Int)×List Int),(xs.foldl parseS st).1.length≤st.1.length+xs.length∧(xs.foldl parseS st).2.length≤st.2.length+xs.length:=fun l=>by
 induction l with
 | nil=>exact fun st=>by simp
 | cons x r ih =>
  intro st
  rw [List.foldl_cons]
  have ih:=ih (parseS st x)
  have:(parseS st x).1.length≤st.1.length+1∧(parseS st x).2.length≤st.2.length+1:=by
   unfold parseS;split <;> simp
  simp;exact om329 ih this
noncomputable abbrev nNum:=Str.ofString "numbers"
noncomputable abbrev numD (rs:List Rule):SV:=.d (.list ((rs.flatMap numsR).map PyData.int))
noncomputable def frL4 (rs:List Rule) (a b:Addr):List (Str×SV):=[(nRules,.d (.list (rs.map ruleD))),(nNum,numD rs),(nRead,.ref a),(Str.ofString "rule",.ref b)]
noncomputable def frL4b (rs:List Rule) (a:Addr) (v:SV) (x:Int):List (Str×SV):=[(nRules,.d (.list (rs.map ruleD))),(nNum,numD rs),(nRead,.ref a),(Str.ofString "rule",v),(Str.ofString "number",.d (.int x))]
noncomputable def frL5 (rs:List Rule):List (Str×SV):=[(nRules,.d (.list (rs.map ruleD))),(nRead,.d (readD rs))]
inductive PaJ (σ:Sig) (a L:Addr) (rs:List Rule) (st0:List (List Int)×List Int) (σ':Sig):Prop
 | mk (st:List (List Int)×List Int) (b:Addr) (h:st=st0) (hb:σ b=none) (hba:b≠a) (ok:FrOk (upd (upd σ a (some (.list (st.1.map fun l=>.d (pL l))))) b (some (.list (intsL st.2)))) L (csLaw L)) (e:σ'=fr (upd (upd σ a (some (.list (st.1.map fun l=>.d (pL l))))) b (some (.list (intsL st.2)))) L (csLaw L) (mkm (frL4 rs a b))):PaJ σ a L rs st0 σ'
section
variable {G:GC} {A:Around} {σ:Sig} {n:Nat} {L f:Addr} {cd:Value}
theorem seg35 {ops:List Int} {rs:List Rule} (R:Rm (n+2) A) (g:Gram ops rs) (ok:FrOk σ L (csLaw L)) :
  TF G.c A (execs [lawS G.w.params 3,lawS G.w.params 4,lawS G.w.params 5] (lawEnv (lawScope G.w.params) L f cd)) (fr σ L (csLaw L) (mkm (frL3 rs))) (NxP fun σ'=>Sh σ L (frL5 rs) σ'):=by
 refine eqv (Φ:=fun sc=>TF G.c A (execs _ (lawEnv sc L f cd)) _ _) (a':=⟨_,_,_,_,_⟩) rfl ?_
 refine T_cons (eqv (Φ:=fun st=>TF G.c A (exec st _) _ _) (a':=.Assign _ _ _) rfl ?_)
 refine t_as (t_list0 ok fun a N=>t_st (Nx.next ?_))
 have haσ:=N.free
 replace ok:=N.ok
 clear N
 refine T_cons (eqv (Φ:=fun st=>TF G.c A (exec st _) _ _) (a':=.Assign _ _ _) rfl ?_)
 refine t_as (t_list0 ok fun b N=>t_st (Nx.next ?_))
 have hba:b≠a:=fun q=>by have:=N.free;rw [q,upd_self] at this;cases this
 have hbσ:σ b=none:=by have:=N.free;rwa [upd_ne _ _ hba] at this
 replace ok:=N.ok
 clear N
 refine t_fit (frL4 rs a b) ⟨rfl,rfl,rfl,rfl,trivial⟩ ?_
 refine T_cons (eqv (Φ:=fun st=>TF G.c A (exec st _) _ _) (a':=.For _ _ _ _ _) rfl ?_)
 have hnl:(rs.flatMap numsR).length≤30:=by have:=numsR_len g 6;rw [List.take_of_length_le (by rw [g.len];exact Nat.le_refl _)] at this;exact this
 have hne:∀ r∈rs,∀ x∈r.1 :: r.2,x≠0:=fun r hr x hx=>by
  rcases List.mem_cons.mp hx with e | hx
  ·subst e;have:=(g.hd r hr).1;exact om24 this
  ·rcases g.sy r hr x hx with h | h
   ·have:=h.1;exact om24 this
   ·have:=(g.op x h).1;exact om34 this
 have hpa:=parse_all rs [] hne
 generalize hns:rs.flatMap numsR=ns at hnl hpa
 have e4:numD rs=.d (.list (ns.map PyData.int)):=by rw [←hns]
 refine t_for (t_loc rfl ⟨_,fun i=>PaJ σ a L rs ((ns.take i).foldl parseS ([],[])),by rw [e4];exact it_ints R ⟨_,_,rfl⟩,⟨([],[]),b,by simp,hbσ,hba,ok,rfl⟩,?_,?_⟩)
 ·rintro i y σ' hy ⟨st,b,hst,hbσ,hba,ok,rfl⟩
  rw [List.getElem?_map] at hy
  obtain ⟨x,hx,rfl⟩:=Option.map_eq_some_iff.mp hy
  have hi:i < 30:=by have:=(List.getElem?_eq_some_iff.mp hx).1;exact om222 hnl this
  have hlen:=parse_len (ns.take i) ([],[])
  rw [←hst,List.length_take] at hlen
  simp only [List.length_nil,Nat.zero_add] at hlen
  have hnext:(ns.take (i+1)).foldl parseS ([],[])=parseS st x:=by
   rw [List.take_add_one,hx,List.foldl_append,←hst];rfl
  refine t_asN (t_fit (frL4b rs a (.ref b) x) ⟨rfl,rfl,rfl,rfl,rfl,trivial⟩ (opF fun P1 i1=>T_cons (T_if (t_isVal (t_callG (v:=.ref 165) rfl rfl (t_a1 (t_loc rfl (W_eof (n:=n+1) R (truth_bool ⟨fun hb=>?_,fun hb=>?_⟩)))))))))
  ·have hx0:x=0:=by simpa using hb
   have hp:parseS st x=(st.1++[st.2],[]):=by unfold parseS;rw [if_pos hx0]
   refine t_freeze (ds:=st.2.map PyData.int) (frL4b rs a (.d (pL st.2)) x) ok (by rw [upd_self];simp) ⟨.inl rfl,.inl rfl,.inl rfl,.inr ⟨rfl,rfl⟩,.inl rfl,trivial⟩ fun ok=>?_
   rw [upd_upd,upd_id (show upd σ a (some (.list (st.1.map fun l=>.d (pL l)))) b=none by rw [upd_ne _ _ hba,hbσ])] at ok ⊢
   refine T_cons (t_ex (t_meth m_append (t_loc rfl ⟨oft_list (.ref (fr_some ok (upd_self ..))),t_a1 (t_loc rfl (o_append ok (upd_self ..) (by rw [List.length_map];exact om298 hnl hi hlen) fun ok'=>Nx.next ?_))⟩)))
   rw [upd_upd] at ok' ⊢
   refine T_cons (t_as (t_list0 ok' fun b2 N=>t_st (Nx.next ?_)))
   have hba2:b2≠a:=fun q=>by have:=N.free;rw [q,upd_self] at this;cases this
   have hbσ2:σ b2=none:=by have:=N.free;rwa [upd_ne _ _ hba2] at this
   refine t_fit (frL4 rs a b2) ⟨rfl,rfl,rfl,rfl,trivial⟩ (T_nil (Nx.next (T_nil ?_)))
   refine i1 _ ⟨(st.1++[st.2],[]),b2,by rw [hnext,hp],hbσ2,hba2,?_,?_⟩
   ·have:=N.ok;simpa using this
   ·simp
  ·have hx0:x≠0:=by simpa using hb
   have hp:parseS st x=(st.1,st.2++[x]):=by unfold parseS;rw [if_neg hx0]
   refine T_cons (t_ex (t_meth m_append (t_loc rfl ⟨oft_list (.ref (fr_some ok (upd_self ..))),t_a1 (t_loc rfl (o_append ok (upd_self ..) (by rw [List.length_map];exact om309 hnl hi hlen hx0) fun ok'=>Nx.next ?_))⟩)))
   rw [upd_upd] at ok' ⊢
   refine t_fit (frL4 rs a b) ⟨rfl,rfl,rfl,rfl,trivial⟩ (T_nil (Nx.next (T_nil ?_)))
   refine i1 _ ⟨(st.1,st.2++[x]),b,by rw [hnext,hp],hbσ,hba,?_,?_⟩
   ·simpa using ok'
   ·simp
 ·rintro σ' ⟨st,b,hst,hbσ,hba,ok,rfl⟩
  rw [List.length_map,List.take_length,hpa] at hst
  subst hst
  refine Nx.next (t_drop ok (upd_self ..) rfl fun ok=>?_)
  rw [upd_upd,upd_id (show upd σ a _ b=none by rw [upd_ne _ _ hba,hbσ])] at ok ⊢
  refine t_freeze (ds:=rs.map fun r=>.list ((r.1 :: r.2).map PyData.int)) (frL5 rs) ok (by rw [upd_self];simp [pL]) ⟨.inl rfl,.inr ⟨rfl,rfl⟩,trivial⟩ fun ok=>?_
  rw [upd_upd,upd_id haσ]
  exact T_nil (NxP.next ⟨_,⟨rfl,rfl,trivial⟩,rfl⟩)
end
end Mine
end
section
set_option maxHeartbeats 400000
namespace Mine
structure HL (σ:Sig) (hd:Addr) (h4:Int→Addr) (H:FMap) (ks:List Int):Prop where
 d:σ hd=some (.dictI (ks.map fun k=>(k,.ref (h4 k))))
 l:∀ k∈ks,σ (h4 k)=some (.list (intsL (H k)))
 inj:∀ a∈ks,∀ b∈ks,h4 a=h4 b→a=b
structure HA (S:SS) (hd:Addr) (h4:Int→Addr) (ks:List Int):Prop where
 d:Apart S hd
 l:∀ k∈ks,Apart S (h4 k)
section
variable {σ σ':Sig} {S S':SS} {hd:Addr} {h4:Int→Addr} {H:FMap} {ks:List Int}
theorem HL.keep (h:HL σ hd h4 H ks) (k:∀ a,(a=hd∨∃ z∈ks,a=h4 z)→∀ o,σ a=some o→σ' a=some o):HL σ' hd h4 H ks :=
 ⟨k _ (.inl rfl) _ h.d,fun z hz=>k _ (.inr ⟨z,hz,rfl⟩) _ (h.l z hz),h.inj⟩
theorem HL.new {b:Addr} {o:SObj} (h:HL σ hd h4 H ks) (hb:σ b=none):HL (upd σ b (some o)) hd h4 H ks :=
 h.keep fun a _ o' e=>by rw [upd_ne _ _ (fun q=>by rw [q,hb] at e;cases e)];exact e
theorem HL.step (h:HL σ hd h4 H ks) (p:HA S hd h4 ks) (st:Step σ σ' S S'):HL σ' hd h4 H ks∧HA S' hd h4 ks :=
 ⟨⟨st.grow.off.at h.d p.d,fun k hk=>st.grow.off.at (h.l k hk) (p.l k hk),h.inj⟩,⟨st.grow.apart h.d p.d,fun k hk=>st.grow.apart (h.l k hk) (p.l k hk)⟩⟩
theorem HL.push {k:Int} {b:Addr} (h:HL σ hd h4 H ks) (hk:k∉ks) (hb:σ b=none) (hH:H k=[]) :
  HL (upd (upd σ b (some (.list []))) hd (some (.dictI (sset (ks.map fun k=>(k,.ref (h4 k))) k (.ref b))))) hd (fun z=>if z=k then b else h4 z) H (ks++[k]):=by
 have hbd:b≠hd:=fun q=>by rw [q,h.d] at hb;cases hb
 have hbl:∀ z∈ks,h4 z≠b:=fun z hz q=>by have:=h.l z hz;rw [q,hb] at this;cases this
 have hld:∀ z∈ks,h4 z≠hd:=fun z hz q=>by have:=h.l z hz;rw [q,h.d] at this;cases this
 have hkz:∀ z∈ks,z≠k:=fun z hz q=>hk (q▸hz)
 refine ⟨?_,fun z hz=>?_,fun x hx y hy e=>?_⟩
 ·rw [upd_self]
  congr 2
  unfold sset
  rw [if_neg,List.map_append]
  ·congr 1
   ·exact List.map_congr_left fun z hz=>by rw [if_neg (hkz z hz)]
   ·simp
  ·rw [Bool.not_eq_true,List.any_eq_false]
   intro p hp
   obtain ⟨z,hz,rfl⟩:=List.mem_map.mp hp
   simpa using hkz z hz
 ·by_cases q:z=k
  ·subst q;rw [if_pos rfl,upd_ne _ _ hbd,upd_self,hH];rfl
  ·have hz:z∈ks:=by simpa [q] using hz
   rw [if_neg q,upd_ne _ _ (hld z hz),upd_ne _ _ (hbl z hz)];exact h.l z hz
 ·have hx':x=k∨x∈ks:=by simpa [or_comm] using hx
  have hy':y=k∨y∈ks:=by simpa [or_comm] using hy
  by_cases qx:x=k
  ·by_cases qy:y=k
   ·rw [qx,qy]
   ·rw [if_pos qx,if_neg qy] at e
    exact absurd e.symm (hbl y (hy'.resolve_left qy))
  ·by_cases qy:y=k
   ·rw [if_neg qx,if_pos qy] at e
    exact absurd e (hbl x (hx'.resolve_left qx))
   ·rw [if_neg qx,if_neg qy] at e
    exact h.inj x (hx'.resolve_left qx) y (hy'.resolve_left qy) e
theorem HL.app {k:Int} {x:Int} (h:HL σ hd h4 H ks) (hk:k∈ks):HL (upd σ (h4 k) (some (.list (intsL (H k)++[.d (.int x)])))) hd h4 (fset H k (H k++[x])) ks:=by
 refine ⟨?_,fun z hz=>?_,h.inj⟩
 ·rw [upd_ne _ _ (fun q=>by have:=h.l k hk;rw [←q,h.d] at this;cases this)];exact h.d
 ·by_cases q:z=k
  ·subst q;rw [upd_self,fset_eq,if_pos rfl];simp
  ·rw [upd_ne _ _ (fun e=>q (h.inj z hz k hk e)),fset_eq,if_neg q];exact h.l z hz
theorem Gph.off {a:Addr} {o o':SObj} (G:Gph σ S) (ha:σ a=some o) (p:Apart S a) (h1:∀ C,o≠.obj C) (h2:∀ l,o≠.attrs l):Gph (upd σ a (some o')) S where
 hx:=by rw [upd_ne _ _ (fun q=>by rw [←q,G.hx] at ha;exact h1 _ (Option.some.inj ha).symm)];exact G.hx
 hdx:=by rw [upd_ne _ _ (Ne.symm p.dx)];exact G.hdx
 hd:=by rw [upd_ne _ _ (Ne.symm p.d)];exact G.hd
 hr:=fun b hb=>by rw [upd_ne _ _ (Ne.symm (p.rl b hb))];exact G.hr b hb
 hn:=fun r hr=>by
  obtain ⟨e1,e2,e3⟩:=G.hn r hr
  rw [upd_ne _ _ (Ne.symm (p.ns r hr).1),upd_ne _ _ (Ne.symm (p.ns r hr).2),upd_ne _ _ (fun q=>by rw [←q,e2] at ha;exact h2 _ (Option.some.inj ha).symm)]
  exact ⟨e1,e2,e3⟩
 keys:=G.keys
 lists:=G.lists
 apart:=G.apart
theorem Gph.new {b:Addr} {o:SObj} (G:Gph σ S) (hb:σ b=none):Gph (upd σ b (some o)) S:=by
 have k:∀ {a o'},σ a=some o'→upd σ b (some o) a=some o':=fun {a o'} e=>by rw [upd_ne _ _ (fun q=>by rw [q,hb] at e;cases e)];exact e
 exact ⟨k G.hx,k G.hdx,k G.hd,fun a ha=>k (G.hr a ha),fun r hr=>⟨k (G.hn r hr).1,k (G.hn r hr).2.1,k (G.hn r hr).2.2⟩,G.keys,G.lists,G.apart⟩
end
theorem fr_back {L:Addr} {cs:List (Str×Addr)} {m:Str→Option SV} {σ:Sig} {a:Addr} {o:SObj} (h:Mine.fr σ L cs m a=some o) (h1:∀ m,o≠.ns m) (h2:∀ v,o≠.cell v):σ a=some o:=by
 unfold Mine.fr at h
 by_cases q:a=L
 ·rw [if_pos q] at h;exact absurd (Option.some.inj h).symm (h1 _)
 ·rw [if_neg q] at h
  cases e:cs.find? (fun p=>p.2 == a) with
  | some p=>rw [e] at h;exact absurd (Option.some.inj h).symm (h2 _)
  | none=>rw [e] at h;exact h
theorem Gph.back {L:Addr} {cs:List (Str×Addr)} {m:Str→Option SV} {σ:Sig} {S:SS} (G:Gph (Mine.fr σ L cs m) S):Gph σ S where
 hx:=fr_back G.hx (by intro _ h;cases h) (by intro _ h;cases h)
 hdx:=fr_back G.hdx (by intro _ h;cases h) (by intro _ h;cases h)
 hd:=fr_back G.hd (by intro _ h;cases h) (by intro _ h;cases h)
 hr:=fun a ha=>fr_back (G.hr a ha) (by intro _ h;cases h) (by intro _ h;cases h)
 hn:=fun r hr=>⟨fr_back (G.hn r hr).1 (by intro _ h;cases h) (by intro _ h;cases h),fr_back (G.hn r hr).2.1 (by intro _ h;cases h) (by intro _ h;cases h),fr_back (G.hn r hr).2.2 (by intro _ h;cases h) (by intro _ h;cases h)⟩
 keys:=G.keys
 lists:=G.lists
 apart:=G.apart
noncomputable abbrev nBook:=Str.ofString "book"
noncomputable abbrev nHeads:=Str.ofString "heads"
noncomputable def frL8 (rs:List Rule) (x hd:Addr):List (Str×SV):=[(nRules,.d (.list (rs.map ruleD))),(nRead,.d (readD rs)),(nBook,.ref x),(nHeads,.ref hd)]
section
variable {G:GC} {A:Around} {σ:Sig} {n:Nat} {L f:Addr} {cd:Value}
inductive Bld (σ':Sig) (L:Addr) (rs:List Rule) (x hd:Addr) (kvs:List (Int×List Int)) (ks:List Int):Prop
 | mk (σ1:Sig) (S:SS) (h4:Int→Addr) (e0:σ'=fr σ1 L (csLaw L) (mkm (frL8 rs x hd))) (e1:FrOk σ1 L (csLaw L)) (e2:Gph σ1 S) (e3:NewS S) (e4:S.x=x) (e5:absG S=graphOf kvs []) (e6:HL σ1 hd h4 (fun _=>[]) ks) (e7:HA S hd h4 ks):Bld σ' L rs x hd kvs ks
theorem seg68 {ops:List Int} {rs:List Rule} (R:Rm (n+5) A) (g:Gram ops rs) (ok:FrOk σ L (csLaw L)) :
  TF G.c A (execs [lawS G.w.params 6,lawS G.w.params 7,lawS G.w.params 8] (lawEnv (lawScope G.w.params) L f cd)) (fr σ L (csLaw L) (mkm (frL5 rs))) (NxP fun σ'=>∃ x hd,Bld σ' L rs x hd (four.map fun n=>(n,[])) four):=by
 refine opP fun P0 i0=>?_
 refine eqv (Φ:=fun sc=>TF G.c A (execs _ (lawEnv sc L f cd)) _ _) (a':=⟨_,_,_,_,_⟩) rfl ?_
 refine T_cons (eqv (Φ:=fun st=>TF G.c A (exec st _) _ _) (a':=.Assign _ _ _) rfl ?_)
 refine t_as (t_callG (v:=.ref 137) rfl rfl (t_a0 (W_sorter0 (n:=n+3) R fun S σ1 hn hab G1 fr1=>?_)))
 obtain ⟨σ3,rfl,ok,_⟩:=keep_back ok fun a o e=>(fr1 a o e).1
 replace G1:=G1.back
 clear fr1
 refine t_st (Nx.next ?_)
 refine T_cons (eqv (Φ:=fun st=>TF G.c A (exec st _) _ _) (a':=.Assign _ _ _) rfl ?_)
 refine t_as (t_dict0I ok fun hd N=>t_stC N.ok (Nx.next ?_))
 have hσ:=N.free
 replace ok:=N.ok
 clear N
 refine t_fit (frL8 rs S.x hd) ⟨rfl,rfl,rfl,rfl,trivial⟩ ?_
 refine T_cons (eqv (Φ:=fun st=>TF G.c A (exec st _) _ _) (a':=.For _ _ _ _ _) rfl ?_)
 refine t_for (t_callB rfl (by rfl) (by decide) (kept_type _) (t_a1 (T_int (C_range1 fun t u v=>?_))))
 refine ⟨rngL 0 1 4,fun i σ'=>Bld σ' L rs S.x hd ((four.take i).map fun n=>(n,[])) (four.take i),it_range (m:=4) R (by decide) (by decide) ⟨_,_,rfl⟩,?_,?_,?_⟩
 ·exact ⟨_,S,fun _=>0,rfl,ok,G1.new hσ,hn,rfl,hab,⟨upd_self ..,nofun,nofun⟩,⟨G1.apartD hσ,nofun⟩⟩
 ·rintro i y σ' hy ⟨σ1,S1,h4,rfl,ok,G1,hn,hx,hab,hl,ha⟩
  obtain ⟨hi,rfl⟩:=rngL_get hy
  refine t_asN (opF fun P1 i1=>?_)
  have gf:=G1.fr (m:=setm (mkm (frL8 rs S.x hd)) (Str.ofString "k") (.d (.int (0+(i:Int) * 1)))) ok
  have gfx:=gf.hx
  rw [hx] at gfx
  have hbd:Bd (absG S1) i:=by
   rw [hab]
   have:=Bd.graph (kvs:=(four.take i).map fun n=>(n,([]:List Int))) Bd.nil
   refine this.mono ?_
   obtain rfl | rfl | rfl | rfl:i=0∨i=1∨i=2∨i=3:=by exact om85 hi
   all_goals decide
  have hk4:four[i]?=some (256+(0+(i:Int) * 1)):=by
   obtain rfl | rfl | rfl | rfl:i=0∨i=1∨i=2∨i=3:=by exact om85 hi
   all_goals rfl
  refine T_cons (t_ex (t_inst (C:=137) (f:=87) (t_loc rfl ⟨_,rfl,isInst_obj (.inl gfx) (.inl gf.hdx) rfl,t_a1 (T_bin (t_globI rfl (t_loc rfl (O_add ?_))))⟩) (k137_get _ _) (k137_add _) (k87_ty _) (k87_kp _)))
  generalize hkk:256+(0+(i:Int) * 1)=kk at hk4
  refine CallT.self hx <| CodeT.call <| W_add (n:=n) (ps:=[]) (R.less (om83)) gf hn.rl hbd (by simp;exact om134 hi hkk) fun S2 σ2 hab2 st=>?_
  obtain ⟨σ4,rfl,ok,st⟩:=Step.back G1 ok st
  obtain ⟨hl2,ha2⟩:=hl.step ha st
  have hn2:NewS S2:=⟨st.same.rl.trans hn.rl,st.same.rd.trans hn.rd,st.same.po.trans hn.po,st.same.nf.trans hn.nf⟩
  have G2:=st.gph
  have hx2:S2.x=S.x:=st.same.x.trans hx
  have hab3:absG S2=graphOf ((four.take (i+1)).map fun n=>(n,[])) []:=by
   rw [hab2,hab,List.take_add_one,hk4,List.map_append]
   unfold graphOf
   rw [List.foldl_append];rfl
  have hnk:kk∉four.take i:=fun z=>by
   obtain ⟨j,hj⟩:=List.mem_iff_getElem?.mp z
   rw [List.getElem?_take] at hj
   split at hj
   ·obtain ⟨a1,a2⟩:=List.getElem?_eq_some_iff.mp hj
    obtain ⟨b1,b2⟩:=List.getElem?_eq_some_iff.mp hk4
    rename_i hlt
    have:=List.pairwise_iff_getElem.mp (show four.Nodup by decide) j i a1 b1 hlt
    exact this (a2.trans b2.symm)
   ·cases hj
  clear st G1 gf gfx hl ha hab hab2 hbd hn hx
  refine Nx.next (T_cons (T_assignSub (t_list0 ok fun b N=>t_cell rfl N.ok (T_bin (t_globI rfl (t_loc rfl (O_add ?_))))) rfl))
  rw [hkk]
  have hbσ:=N.free
  replace ok:=N.ok
  have hdn:upd σ4 b (some (.list [])) hd=some (.dictI ((four.take i).map fun k=>(k,.ref (h4 k)))):=(hl2.new hbσ).d
  clear N
  refine s_dictI ok hdn (by rw [List.length_map,List.length_take];exact om227 hi hkk) fun ok=>Nx.next (t_fit (frL8 rs S.x hd) ⟨rfl,rfl,rfl,rfl,trivial⟩ (T_nil ?_))
  have e4:four.take (i+1)=four.take i++[kk]:=by rw [List.take_add_one,hk4];rfl
  refine i1 _ ⟨_,S2,fun z=>if z=kk then b else h4 z,rfl,ok,(G2.new hbσ).off hdn ha2.d (by intro _ h;cases h) (by intro _ h;cases h),hn2,hx2,hab3,?_,?_⟩
  ·rw [e4];exact hl2.push hnk hbσ rfl
  ·refine ⟨ha2.d,fun z hz=>?_⟩
   by_cases q:z=kk
   ·rw [if_pos q];exact G2.apartD hbσ
   ·rw [if_neg q]
    rw [e4] at hz
    exact ha2.l z (by simpa [q] using hz)
 ·rintro σ' B
  exact Nx.next (T_nil (NxP.next (i0 _ ⟨S.x,hd,B⟩)))
end
end Mine
end
section
set_option maxHeartbeats 400000
namespace Mine
theorem ruleNodes_snoc {rs:List Rule} {i:Nat} {r:Rule} (h:rs[i]?=some r):ruleNodes (rs.take (i+1))=ruleNodes (rs.take i)++(if r.2.all (fun x=>decide (256≤x)) then [(-1 - (i:Int),r.2)] else []):=by
 have hi:=(List.getElem?_eq_some_iff.mp h).1
 have hl:(rs.take i).length=i:=by rw [List.length_take];exact om176 hi
 unfold ruleNodes
 rw [List.take_add_one,h,Option.toList_some,List.zipIdx_append,List.filterMap_append,hl]
 congr 1
 simp only [Nat.zero_add,List.zipIdx_cons,List.zipIdx_nil,List.filterMap_cons,List.filterMap_nil]
 split
 ·rename_i q
  split at q
  ·cases q
  ·rename_i q2;rw [if_neg q2]
 ·rename_i b q
  split at q
  ·rename_i q2;cases q;rw [if_pos q2]
  ·cases q
theorem bd_app (a b:List (Int×List Int)):bdOf (a++b)=bdOf a+bdOf b:=by unfold bdOf;simp
theorem bd_nodes {rs:List Rule} (hb:∀ r∈rs,r.2.length≤3):∀ i,i≤rs.length→bdOf (ruleNodes (rs.take i))≤7 * i
 | 0,_=>by simp [ruleNodes,bdOf]
 | i+1,hi=>by
  have ih:=bd_nodes hb i (om161 hi)
  have hr:rs[i]?=some rs[i]:=List.getElem?_eq_getElem (om159 hi)
  rw [ruleNodes_snoc hr,bd_app]
  have:=hb rs[i] (List.getElem_mem _)
  split
  ·simp [bdOf] at ih ⊢;exact om288 hi ih this
  ·simp [bdOf] at ih ⊢;exact om234 hi ih
theorem tail_d (r:Rule) (n:Nat) (hn:r.2.length+1≤n):((((r.1 :: r.2).map PyData.int).drop (1:Int).toNat).take n)=r.2.map PyData.int:=by
 show (((r.1 :: r.2).map PyData.int).drop 1).take n=_
 rw [List.map_cons,List.drop_succ_cons,List.drop_zero,List.take_of_length_le (by rw [List.length_map];exact om161 hn)]
noncomputable abbrev nK:=Str.ofString "k"
noncomputable def frL9 (rs:List Rule) (x hd:Addr) (k:Int):List (Str×SV):=[(nRules,.d (.list (rs.map ruleD))),(nRead,.d (readD rs)),(nBook,.ref x),(nHeads,.ref hd),(nK,.d (.int k))]
section
variable {G:GC} {A:Around} {σ:Sig} {n:Nat} {L f:Addr} {cd:Value}
theorem seg9 {ops:List Int} {rs:List Rule} (R:Rm (n+5) A) (g:Gram ops rs) {x hd:Addr} (B:Bld σ L rs x hd (four.map fun n=>(n,[])) four) :
  TF G.c A (execs [lawS G.w.params 9] (lawEnv (lawScope G.w.params) L f cd)) σ (NxP fun σ'=>Bld σ' L rs x hd (bkKV rs) four):=by
 refine opP fun P0 i0=>?_
 refine eqv (Φ:=fun sc=>TF G.c A (execs _ (lawEnv sc L f cd)) _ _) (a':=⟨_,_,_,_,_⟩) rfl ?_
 refine T_cons (eqv (Φ:=fun st=>TF G.c A (exec st _) _ _) (a':=.For _ _ _ _ _) rfl ?_)
 have B0:=B
 obtain ⟨σ1,S,h4,rfl,ok,G1,hn,hx,hab,hl,ha⟩:=B
 have hrl:((rs.map fun r=>PyData.list ((r.1 :: r.2).map PyData.int)).map SV.d).length=6:=by rw [List.length_map,List.length_map,g.len]
 refine t_for (t_callB rfl (by rfl) (by decide) (kept_type _) (t_a1 (t_callB rfl (by rfl) (by decide) (kept_builtin _) (t_a1 (t_loc rfl (O_len .d (by rw [hrl];decide) ?_))))))
 rw [hrl]
 refine C_range1 fun t u v=>⟨rngL 0 1 6,fun i σ'=>Bld σ' L rs x hd (four.map (fun n=>(n,[]))++ruleNodes (rs.take i)) four,it_range (m:=6) R (by decide) (by decide) ⟨_,_,rfl⟩,?_,?_,?_⟩
 ·show Bld _ L rs x hd (four.map (fun n=>(n,[]))++ruleNodes (rs.take 0)) four
  rw [show ruleNodes (rs.take 0)=[] from rfl,List.append_nil];exact B0
 ·rintro i y σ' hy ⟨σ1,S,h4,rfl,ok,G1,hn,hx,hab,hl,ha⟩
  obtain ⟨hi,rfl⟩:=rngL_get hy
  rw [show (0:Int)+(i:Int) * 1=i by exact om73]
  have hr:rs[i]?=some (rs[i]'(by rw [g.len];exact hi)):=List.getElem?_eq_getElem _
  generalize (rs[i]'(by rw [g.len];exact hi))=r at hr
  have hrm:=List.mem_of_getElem? hr
  have hbl:=g.bl r hrm
  have hget:((rs.map fun r=>PyData.list ((r.1 :: r.2).map PyData.int)).map SV.d)[((i:Int)).toNat]?=some (.d (pL (r.1 :: r.2))):=by
   rw [Int.toNat_natCast,List.getElem?_map,List.getElem?_map,hr];rfl
  refine t_asN (t_fit (frL9 rs x hd i) ⟨rfl,rfl,rfl,rfl,rfl,trivial⟩ (opF fun P1 i1=>T_cons (T_if (t_isCmp (t_compM (ys:=r.2) (fun x:Int=>SV.d (.int x)) (fun x=>if decide (x < 256) then some (.int x) else none) (fun a _ b _ e=>by rw [show a=b by simpa using e]) ?_)))))
  have hlen1:((r.1 :: r.2).map PyData.int).length≤1000:=by simp;exact om105 hbl
  have hti:∀ k,k∈r.2→IsSym k:=fun k hk=>(g.sy r hrm k hk).imp id (g.op k)
  refine t_slice (t_sub slot_list_getitem.lookup (t_loc rfl <| t_loc rfl ⟨typeL .d,G_list .d (om86 hi) (by rw [hrl];decide) hget <| T_partSome <| T_int <| T_partNone ⟨(r.1 :: r.2).map PyData.int,some 1,none,(1:Int).toNat,((r.1 :: r.2).map PyData.int).length,.inl .d,by simp;exact om105 hbl,rfl,rfl,slice_from (by decide),?_⟩⟩))
  rw [tail_d r _ (by simp)]
  refine ⟨it_ints R ⟨_,_,rfl⟩,om102 hbl,fun C hC z hz m'=>t_asN ?_,?_⟩
  ·refine t_isVal (t_callG (v:=.ref 151) rfl rfl (t_a1 (t_loc rfl (W_term (n:=n+4) R (truth_bool ⟨fun hb=>⟨nofun,fun _=>t_loc rfl ⟨by rw [hb];rfl,_,rfl⟩⟩,fun hb=>⟨fun _=>⟨by rw [hb];rfl,_,rfl⟩,nofun⟩⟩)))))
  ·refine T_listF (T_spl_nil ⟨[],rfl,by simp,O_eqNil R (fun d hd'=>?_) (truth_bool ?_)⟩)
   ·obtain ⟨z,_,e⟩:=List.mem_filterMap.mp hd'
    split at e
    ·cases e;exact flat0_int
    ·cases e
   ·have eall:(r.2.filterMap fun x=>if decide (x < 256) then some (PyData.int x) else none).isEmpty=r.2.all fun x=>decide (256≤x):=by
     generalize r.2=q
     induction q with
     | nil=>rfl
     | cons z q ih =>
      rw [List.filterMap_cons,List.all_cons]
      by_cases h:z < 256
      ·simp [h];omega
      ·simp only [h,decide_false,Bool.false_eq_true,if_false,ih,show (256:Int)≤z by exact om44 h,decide_true,Bool.true_and]
    rw [eall]
    have hsn:=ruleNodes_snoc hr
    refine ⟨fun hb=>?_,fun hb=>?_⟩
    ·rw [hb,if_pos rfl] at hsn
     have gf:=G1.fr (m:=mkm (frL9 rs x hd i)) ok
     have gfx:=gf.hx
     rw [hx] at gfx
     have hbd:Bd (absG S) (4+7 * i):=by
      rw [hab]
      have:=Bd.graph (kvs:=four.map (fun n=>(n,([]:List Int)))++ruleNodes (rs.take i)) Bd.nil
      refine this.mono ?_
      rw [bd_app]
      have h1:=bd_nodes g.bl i (by rw [g.len];exact om87 hi)
      have h2:bdOf (four.map fun n=>(n,([]:List Int)))=4:=rfl
      exact om256 h1 h2
     refine T_cons (t_ex (t_instS (C:=137) (f:=87) (t_loc rfl ⟨x,rfl,isInst2_obj (.inl gfx) (.inl gf.hdx) rfl,fun q=>TA_cons (T_spl_cons (T_bin (T_un (T_int (O_neg (t_loc rfl (O_sub ?_)))))) rfl) rfl⟩) (k137_get _ _) (k137_dict _) (k137_add _) (k87_fn _) (k87_in _) (k87_get _) (k87_tk _) (by decide)))
     refine T_spl_star (t_slice (t_sub slot_list_getitem.lookup (t_loc rfl <| t_loc rfl ⟨typeL .d,G_list .d (om86 hi) (by rw [hrl];decide) hget <| T_partSome <| T_int <| T_partNone ⟨(r.1 :: r.2).map PyData.int,some 1,none,(1:Int).toNat,((r.1 :: r.2).map PyData.int).length,.inl .d,by simp;exact om105 hbl,rfl,rfl,slice_from (by decide),?_⟩⟩)))
     rw [tail_d r _ (by simp)]
     refine ⟨_,.inl .d,by simp;exact om102 hbl,T_spl_nil ?_⟩
     rw [show (r.2.map PyData.int).map SV.d++[]=intsL r.2 by simp]
     refine CodeT.self hx <| W_add (n:=n) (R.less (om83)) gf hn.rl hbd (om174 hi hbl) fun S2 σ2 hab2 st=>?_
     obtain ⟨σ4,rfl,ok,st⟩:=Step.back G1 ok st
     obtain ⟨hl2,ha2⟩:=hl.step ha st
     refine Nx.next (t_fit (frL8 rs x hd) ⟨rfl,rfl,rfl,rfl,trivial⟩ (T_nil (Nx.next (T_nil ?_))))
     refine i1 _ ⟨σ4,S2,h4,rfl,ok,st.gph,⟨st.same.rl.trans hn.rl,st.same.rd.trans hn.rd,st.same.po.trans hn.po,st.same.nf.trans hn.nf⟩,st.same.x.trans hx,?_,hl2,ha2⟩
     rw [hab2,hab,hsn,←List.append_assoc]
     unfold graphOf
     rw [List.foldl_append (l:=four.map (fun n=>(n,[]))++ruleNodes (rs.take i))]
     rw [show (-(1:Int) - (i:Int))=-1 - (i:Int) from rfl]
     rfl
    ·rw [hb,if_neg (by simp),List.append_nil] at hsn
     refine T_nil (Nx.next (t_fit (frL8 rs x hd) ⟨rfl,rfl,rfl,rfl,trivial⟩ (T_nil ?_)))
     refine i1 _ ⟨σ1,S,h4,rfl,ok,G1,hn,hx,?_,hl,ha⟩
     rw [hsn];exact hab
 ·rintro σ' B
  rw [show (rngL 0 1 6).length=6 by simp [rngL],List.take_of_length_le (by rw [g.len];exact Nat.le_refl _)] at B
  exact Nx.next (T_nil (NxP.next (i0 _ B)))
end
end Mine
end
section
set_option maxHeartbeats 400000
namespace Mine
section
variable (p:Params)
theorem k137_prep:findIn (KP p) (.ref 137) "prepare"=some (some (.ref 92)):=by rfl
theorem k92_ty:typeIn (KP p) (.ref 92)=some (.type "function"):=by rfl
theorem k92_kp:keepIn (KP p) (.ref 92)=true:=by rfl
theorem k137_ready:findIn (KP p) (.ref 137) "get_ready"=some (some (.ref 99)):=by rfl
theorem k99_ty:typeIn (KP p) (.ref 99)=some (.type "function"):=by rfl
theorem k99_kp:keepIn (KP p) (.ref 99)=true:=by rfl
theorem k137_active:findIn (KP p) (.ref 137) "is_active"=some (some (.ref 106)):=by rfl
theorem k106_ty:typeIn (KP p) (.ref 106)=some (.type "function"):=by rfl
theorem k106_kp:keepIn (KP p) (.ref 106)=true:=by rfl
theorem k137_done:findIn (KP p) (.ref 137) "done"=some (some (.ref 120)):=by rfl
theorem k120_fn:isFn (KP p) (.ref 120)=true:=by rfl
theorem k120_in:fnIn (KP p) 120=true:=by rfl
theorem k120_get:specialIn (KP p) (.ref 120) "__get__"=some (some (.builtin "function.__get__")):=by rfl
theorem k120_tk:takesIn (KP p) (.ref 120)=some false:=by rfl
end
structure HR (S:SS) (hd:Addr) (h4:Int→Addr) (ks:List Int):Prop where
 d:ApartR S hd
 l:∀ k∈ks,ApartR S (h4 k)
section
variable {σ σ':Sig} {S S':SS} {hd:Addr} {h4:Int→Addr} {H:FMap} {ks:List Int}
theorem HA.R (h:HA S hd h4 ks):HR S hd h4 ks:=⟨h.d.R,fun k hk=>(h.l k hk).R⟩
theorem HL.lock (h:HL σ hd h4 H ks) (p:HA S hd h4 ks):HL (lockS σ S) hd h4 H ks :=
 ⟨by rw [lockS_off p.d];exact h.d,fun k hk=>by rw [lockS_off (p.l k hk)];exact h.l k hk,h.inj⟩
theorem HL.stepR (h:HL σ hd h4 H ks) (p:HR S hd h4 ks) (st:StepR σ σ' S S'):HL σ' hd h4 H ks∧HR S' hd h4 ks :=
 ⟨⟨st.off _ _ h.d p.d,fun k hk=>st.off _ _ (h.l k hk) (p.l k hk),h.inj⟩,⟨st.apart h.d p.d,fun k hk=>st.apart (h.l k hk) (p.l k hk)⟩⟩
theorem GphR.off {a:Addr} {o o':SObj} (G:GphR σ S) (ha:σ a=some o) (p:ApartR S a) (h1:∀ C,o≠.obj C) (h2:∀ l,o≠.attrs l) (h3:o.isRo=false):GphR (upd σ a (some o')) S where
 hx:=by rw [upd_ne _ _ (fun q=>by rw [←q,G.hx] at ha;exact h1 _ (Option.some.inj ha).symm)];exact G.hx
 hdx:=by rw [upd_ne _ _ (Ne.symm p.dx)];exact G.hdx
 hd:=by rw [upd_ne _ _ (fun q=>by rw [←q,G.hd] at ha;rw [←Option.some.inj ha] at h3;cases h3)];exact G.hd
 hr:=fun b hb=>by rw [upd_ne _ _ (fun (q:b=a)=>p.rl (q▸hb))];exact G.hr b hb
 hn:=fun r hr=>by
  obtain ⟨e1,e2,e3⟩:=G.hn r hr
  rw [upd_ne _ _ (Ne.symm (p.ns r hr)),upd_ne _ _ (fun q=>by rw [←q,e2] at ha;exact h2 _ (Option.some.inj ha).symm),upd_ne _ _ (fun q=>by rw [←q,e3] at ha;rw [←Option.some.inj ha] at h3;cases h3)]
  exact ⟨e1,e2,e3⟩
 keys:=G.keys
theorem GphR.new {b:Addr} {o:SObj} (G:GphR σ S) (hb:σ b=none):GphR (upd σ b (some o)) S :=
 G.keepG fun a o' e=>by rw [upd_ne _ _ (fun q=>by rw [q,hb] at e;cases e)];exact e
end
structure GB (S:SS) (V:List Int) (su:Int→List Int) (b:Nat):Prop where
 keys:S.ns.map (·.k)=V
 sus:∀ r∈S.ns,r.su=su r.k
 len:V.length≤b
 sul:∀ k∈V,(su k).length≤b
theorem GB.of {S:SS} {V:List Int} {np:Int→Int} {su:Int→List Int} {b:Nat} (h:absG S=mkG V np su) (hb:Bd (absG S) b):GB S V su b:=by
 have hk:S.ns.map (·.k)=V:=by rw [←abs_keys,h,mkG_keys]
 have hs:∀ r∈absG S,r.su=su r.k:=fun r hr=>by
  rw [h] at hr
  obtain ⟨k,_,rfl⟩:=List.mem_map.mp hr
  rfl
 refine ⟨hk,fun r hr=>hs ⟨r.k,r.np,r.su⟩ (List.mem_map.mpr ⟨r,hr,rfl⟩),?_,fun k hk2=>?_⟩
 ·have:=hb.len
  rw [h] at this
  unfold mkG at this
  rwa [List.length_map] at this
 ·rw [h] at hb
  exact hb.su ⟨k,np k,su k⟩ (List.mem_map.mpr ⟨k,hk2,rfl⟩)
theorem GB.step {S S':SS} {V:List Int} {su:Int→List Int} {b:Nat} {σ σ':Sig} (h:GB S V su b) (st:StepR σ σ' S S'):GB S' V su b:=by
 refine ⟨?_,fun r hr=>?_,h.len,h.sul⟩
 ·rw [←h.keys]
  have:=congrArg (List.map (·.1)) st.sk
  simpa [skel,Function.comp_def] using this
 ·obtain ⟨q,hq,e⟩:=sk_ni st.sk hr
  have e1:q.k=r.k:=congrArg (·.1) e
  have e2:q.su=r.su:=congrArg (·.2.2.2.2) e
  rw [←e1,←e2];exact h.sus q hq
theorem law_frA {A:Around} {σ:Sig} {L f:Addr} {cd:Value} {p:Params} {m:Str→Option SV} (h:A.frames=some [lawEnv (lawScope p) L f cd]):FrA A (fr σ L (csLaw L) m) [lawEnv (lawScope p) L f cd]:=by
 refine ⟨h,fun e he=>?_⟩
 rw [List.mem_singleton] at he
 subst he
 exact ⟨(by intro q;cases q),L,_,rfl,fr_self ..⟩
inductive Rdy (σ':Sig) (L:Addr) (l:List (Str×SV)) (x hd a:Addr) (g:AG) (rd:List Int) (H:FMap):Prop
 | mk (σ1:Sig) (S:SS) (h4:Int→Addr) (e0:σ'=fr σ1 L (csLaw L) (mkm l)) (e1:FrOk σ1 L (csLaw L)) (e2:GphR σ1 S) (e3:S.x=x) (e4:S.rl=some a) (e5:S.rd=rd) (e6:absG S=g) (e7:HL σ1 hd h4 H four) (e8:HR S hd h4 four):Rdy σ' L l x hd a g rd H
section
variable {G:GC} {A:Around} {σ:Sig} {n:Nat} {L f:Addr} {cd:Value}
theorem bk_bd {ops:List Int} {rs:List Rule} (g:Gram ops rs):Bd (graphOf (bkKV rs) []) 46:=by
 have:=Bd.graph (kvs:=bkKV rs) Bd.nil
 refine this.mono ?_
 unfold bkKV
 rw [bd_app]
 have h1:=bd_nodes g.bl 6 (by rw [g.len];exact Nat.le_refl _)
 rw [List.take_of_length_le (by rw [g.len];exact Nat.le_refl _)] at h1
 have h2:bdOf (four.map fun n=>(n,([]:List Int)))=4:=rfl
 exact om215 h1 h2
theorem seg10 {ops:List Int} {rs:List Rule} (R:Rm (n+5) A) (hA:A.frames=some [lawEnv (lawScope G.w.params) L f cd]) (g:Gram ops rs) {x hd:Addr} (B:Bld σ L rs x hd (bkKV rs) four) {V:List Int} {P su:Int→List Int} (F:Fst rs V P su (graphOf (bkKV rs) [])) :
  TF G.c A (execs [lawS G.w.params 10] (lawEnv (lawScope G.w.params) L f cd)) σ (NxP fun σ'=>∃ a,Rdy σ' L (frL8 rs x hd) x hd a (graphOf (bkKV rs) []) (V.filter fun k=>decide (P k=[])) (fun _=>[])):=by
 obtain ⟨σ1,S,h4,rfl,ok,G1,hn,hx,hab,hl,ha⟩:=B
 refine t_lock G1 ok fun ok=>?_
 have G2:=G1.lock
 have hl2:=hl.lock ha
 have ha2:=ha.R
 generalize lockS σ1 S=σ2 at ok G2 hl2
 have hbd:=bk_bd g
 rw [←hab] at hbd
 have gb:GB S V su 46:=GB.of (hab.trans F.eq) hbd
 have gf:=G2.fr (m:=mkm (frL8 rs x hd)) ok
 have gfx:=gf.hx
 rw [hx] at gfx
 have hcl:∀ r∈S.ns,∀ s∈r.su,s∈S.ns.map (·.k):=fun r hr s hs=>by
  rw [gb.sus r hr] at hs
  rw [gb.keys]
  exact F.sg.suV (by rw [←gb.keys];exact List.mem_map.mpr ⟨r,hr,rfl⟩) hs
 have hA':=hA
 generalize hsc:lawScope G.w.params=sc at hA
 have hfA:FrA A (fr σ2 L (csLaw L) (mkm (frL8 rs x hd))) [lawEnv (lawScope G.w.params) L f cd]:=law_frA hA'
 rw [hsc] at hfA
 rw [←hsc]
 refine eqv (Φ:=fun sc=>TF G.c A (execs _ (lawEnv sc L f cd)) _ _) (a':=⟨_,_,_,_,_⟩) rfl ?_
 refine T_cons (eqv (Φ:=fun st=>TF G.c A (exec st _) _ _) (a':=.Expr _ _) rfl ?_)
 refine t_ex (t_inst (C:=137) (f:=92) (t_loc rfl ⟨_,rfl,isInst_obj (.inl gfx) (.inl gf.hdx) rfl,t_a0 ?_⟩) (k137_get _ _) (k137_prep _) (k92_ty _) (k92_kp _))
 refine CallT.self hx <| W_prepare0 (n:=n+2) R hfA gf hn.rl hcl (by rw [←List.length_map (f:=(·.k)),gb.keys];have:=gb.len;exact om114 this) (by rw [hab];exact F.acyc) fun S2 σ3 pq=>?_
 obtain ⟨σ4,rfl,ok,st⟩:=StepR.back G2 ok pq.st
 obtain ⟨a,hrl,_⟩:=pq.rl
 obtain ⟨hl3,ha3⟩:=hl2.stepR ha2 st
 refine Nx.next (T_nil (NxP.next ⟨a,σ4,S2,h4,rfl,ok,st.gph,st.x.trans hx,hrl,?_,pq.ab.trans hab,hl3,ha3⟩))
 rw [pq.rd,hab,F.eq,KI.start_rd]
end
end Mine
end
section
set_option maxHeartbeats 400000
namespace Mine
noncomputable def intKV {α:Type} (g:α→SV) (T:List (Int×α)):List (Int×SV):=T.map fun p=>(p.1,g p.2)
theorem sget_int {α:Type} (g:α→SV) (T:List (Int×α)) (k:Int):sget (intKV g T) k=(aget T k).map g:=by
 unfold sget aget intKV
 rw [List.find?_map,Option.map_map,Option.map_map]
 rfl
theorem sset_int {α:Type} (g:α→SV) (T:List (Int×α)) (k:Int) (v:α):sset (intKV g T) k (g v)=intKV g (aset T k v):=by
 unfold sset aset intKV
 rw [List.any_map]
 have e:(T.any ((fun p:Int×SV=>decide (p.1=k)) ∘ fun p=>(p.1,g p.2)))=T.any fun p=>decide (p.1=k):=rfl
 rw [e]
 split
 ·rw [List.map_map,List.map_map]
  refine List.map_congr_left fun p _=>?_
  simp only [Function.comp]
  split <;> rfl
 ·rw [List.map_append];rfl
noncomputable abbrev nTurns:=Str.ofString "turns"
noncomputable def frL11 (rs:List Rule) (x hd td:Addr):List (Str×SV):=[(nRules,.d (.list (rs.map ruleD))),(nRead,.d (readD rs)),(nBook,.ref x),(nHeads,.ref hd),(nTurns,.ref td)]
noncomputable def frL12 (rs:List Rule) (x hd td fa:Addr) (t:Int):List (Str×SV):=[(nRules,.d (.list (rs.map ruleD))),(nRead,.d (readD rs)),(nBook,.ref x),(nHeads,.ref hd),(nTurns,.ref td),(Str.ofString "turn",.d (.int t)),(Str.ofString "fresh",.ref fa)]
noncomputable def frL12n (rs:List Rule) (x hd td fa:Addr) (t k:Int):List (Str×SV):=[(nRules,.d (.list (rs.map ruleD))),(nRead,.d (readD rs)),(nBook,.ref x),(nHeads,.ref hd),(nTurns,.ref td),(Str.ofString "turn",.d (.int t)),(Str.ofString "fresh",.ref fa),(Str.ofString "node",.d (.int k))]
noncomputable def sgT (σ:Sig) (td fa:Addr) (st:List (Int×Int)×List Int):Sig:=upd (upd σ fa (some (.list (intsL st.2)))) td (some (.dictI (intKV svI st.1)))
inductive BkS (σ':Sig) (L:Addr) (rs:List Rule) (x hd a td:Addr) (V:List Int) (P su:Int→List Int) (t:Nat):Prop
 | mk (σ1:Sig) (S:SS) (h4:Int→Addr) (Out:List Int) (D:List Int) (rd:List Int) (T:List (Int×Int)) (e0:σ'=fr σ1 L (csLaw L) (mkm (frL11 rs x hd td))) (e1:FrOk σ1 L (csLaw L)) (e2:GphR σ1 S) (e3:S.x=x) (e4:S.rl=some a) (e5:S.rd=rd) (e6:absG S=mkG V (npI P Out D) su) (e7:Bk rs V P t Out D rd T) (e8:σ1 td=some (.dictI (intKV svI T))) (e9:ApartR S td) (e10:td≠hd) (e11:HL σ1 hd h4 (fun _=>[]) four) (e12:HR S hd h4 four) (e13:GB S V su 46):BkS σ' L rs x hd a td V P su t
theorem bk_len {rs:List Rule} {t:Nat}:∀ (xs:List Int) (st:List (Int×Int)×List Int),(xs.foldl (bkStep rs t) st).1.length≤st.1.length+xs.length
 | [],st=>by simp
 | x :: r,st=>by
  rw [List.foldl_cons]
  have ih:=bk_len (rs:=rs) (t:=t) r (bkStep rs t st x)
  have:(bkStep rs t st x).1.length≤st.1.length+1:=by
   unfold bkStep
   split
   ·exact aset_len _ _ _
   ·exact om128
  simp;exact om291 ih this
theorem Fst.rule {rs:List Rule} {V:List Int} {P su:Int→List Int} {g:AG} (F:Fst rs V P su g) {k:Int} (hk:k∈V) (h:k < 0):∃ (kk:Nat) (r:Rule),rs[kk]?=some r∧k=-1 - (kk:Int)∧nmOf rs k=r.1:=by
 rcases (F.mem k).mp hk with z | ⟨kk,r,h1,rfl,_⟩
 ·have:=(four_isNm z).1;omega
 ·refine ⟨kk,r,h1,rfl,?_⟩
  unfold nmOf
  rw [show (-1 - (-1 - (kk:Int))).toNat=kk by exact om72 h,List.getD_eq_getElem?_getD,h1];rfl
theorem sgT_td {σ:Sig} {td fa:Addr} {st:List (Int×Int)×List Int} {k t:Int}:upd (sgT σ td fa st) td (some (.dictI (sset (intKV svI st.1) k (.d (.int t)))))=sgT σ td fa (aset st.1 k t,st.2):=by
 unfold sgT
 rw [upd_upd,sset_int svI]
theorem sgT_fa {σ:Sig} {td fa:Addr} {st:List (Int×Int)×List Int} {k:Int} (h:td≠fa):upd (sgT σ td fa st) fa (some (.list (intsL st.2++[.d (.int k)])))=sgT σ td fa (st.1,st.2++[k]):=by
 unfold sgT
 rw [upd_comm _ _ _ h,upd_upd]
 simp
inductive BkJ (rs:List Rule) (rd:List Int) (t:Nat) (T:List (Int×Int)) (σ4:Sig) (td fa L:Addr) (l:List (Str×SV)) (j:Nat) (σ':Sig):Prop
 | mk (T1:List (Int×Int)) (fr1:List Int) (h:(rd.take j).foldl (bkStep rs t) (T,[])=(T1,fr1)) (e:σ'=fr (sgT σ4 td fa (T1,fr1)) L (csLaw L) (mkm l)):BkJ rs rd t T σ4 td fa L l j σ'
section
variable {G:GC} {A:Around} {σ:Sig} {n:Nat} {L f:Addr} {cd:Value}
theorem t_nm {env:Env} {rs:List Rule} {k:Int} {kk:Nat} {r:Rule} {m:Str→Option SV} {cs:List (Str×Addr)} {e1 e2:Expr} {p1 p2:Pos} {Q:SV→Sig→Prop} (hl:rs.length≤900) (hrl:r.2.length≤900) (hr:rs[kk]?=some r) (hk:k=-1 - (kk:Int))
  (h1:∀ {Q:SV→Sig→Prop},Q (.d (readD rs)) (fr σ L cs m)→TV G.c A (eval e1 env) (fr σ L cs m) Q) (h2:∀ {Q:SV→Sig→Prop},Q (.d (.int (-1 - k))) (fr σ L cs m)→TV G.c A (eval e2 env) (fr σ L cs m) Q) (q:Q (.d (.int r.1)) (fr σ L cs m))
  (hs1:∀ o i,∃ ops,subscripted e2 false o i=operate ops (getItem o i)) {c0:Nat} {p0:Pos}:TV G.c A (eval (.Subscript (.Subscript e1 e2 p1) (.Constant (.int 0) c0 p0) p2) env) (fr σ L cs m) Q:=by
 refine t_sub slot_list_getitem.lookup (t_sub (T := "list") slot_list_getitem.lookup (h1 (h2 ⟨typeL .d,G_list (xs:=(rs.map fun r=>PyData.list ((r.1 :: r.2).map PyData.int)).map SV.d) (y:=.d (pL (r.1 :: r.2))) .d (om61 hk) (by simp;exact om126 hl) ?_ ?_⟩)) hs1)
 ·rw [show (-1 - k).toNat=kk by exact om62 hk,List.getElem?_map,List.getElem?_map,hr];rfl
 ·refine T_int ⟨typeL .d,G_list (xs:=((r.1 :: r.2).map PyData.int).map SV.d) (y:=.d (.int r.1)) .d (by decide) (by simp;exact om127 hrl) rfl q⟩
theorem seg11 {rs:List Rule} {x hd a:Addr} {V:List Int} {P su:Int→List Int} (F:Fst rs V P su (graphOf (bkKV rs) [])) {ops:List Int} (g:Gram ops rs)
  (B:Rdy σ L (frL8 rs x hd) x hd a (graphOf (bkKV rs) []) (V.filter fun k=>decide (P k=[])) (fun _=>[])) :
  TF G.c A (execs [lawS G.w.params 11] (lawEnv (lawScope G.w.params) L f cd)) σ (NxP fun σ'=>∃ td,BkS σ' L rs x hd a td V P su 0):=by
 refine eqv (Φ:=fun sc=>TF G.c A (execs _ (lawEnv sc L f cd)) _ _) (a':=⟨_,_,_,_,_⟩) rfl ?_
 refine T_cons (eqv (Φ:=fun st=>TF G.c A (exec st _) _ _) (a':=.Assign _ _ _) rfl ?_)
 obtain ⟨σ1,S,h4,rfl,ok,G1,hx,hrl,hrd,hab,hl,hR⟩:=B
 refine t_as (t_dict0I ok fun td N=>t_st (Nx.next ?_))
 have hσ:=N.free
 refine t_fit (frL11 rs x hd td) ⟨rfl,rfl,rfl,rfl,rfl,trivial⟩ (T_nil (NxP.next ⟨td,_,S,h4,[],[],_,[],rfl,N.ok,G1.new hσ,hx,hrl,hrd,?_,Bk.start F,upd_self ..,G1.own hσ,fun q=>?_,hl.new hσ,hR,?_⟩))
 ·rw [hab];exact F.eq
 ·have:=hl.d;rw [←q,hσ] at this;cases this
 ·exact GB.of (hab.trans F.eq) (by rw [hab];exact bk_bd g)
theorem turn12 {ops:List Int} {rs:List Rule} (R:Rm (n+5) A) (g:Gram ops rs) {x hd a td:Addr} {V:List Int} {P su:Int→List Int} (F:Fst rs V P su (graphOf (bkKV rs) [])) {i:Nat} {y:SV}
  (hy:(rngL 0 1 5)[i]?=some y) (B:BkS σ L rs x hd a td V P su i) {Q:SFlow→Sig→Prop} :
  ∃ tg it bd p,lawS G.w.params 12=.For tg it bd [] p∧T1 G.c RU A (assign tg (lawEnv (lawScope G.w.params) L f cd)) y σ (fun _ σ2=>TF G.c A (execs bd (lawEnv (lawScope G.w.params) L f cd)) σ2 (ForEnd (BkS · L rs x hd a td V P su (i+1)) Q)):=by
 refine ⟨_,_,_,_,rfl,?_⟩
 refine eqv (Φ:=fun sc=>T1 G.c RU A (assign _ (lawEnv sc L f cd)) _ _ (fun _ σ2=>TF G.c A (execs _ (lawEnv sc L f cd)) σ2 _)) (a':=⟨_,_,_,_,_⟩) rfl ?_
 obtain ⟨hi,rfl⟩:=rngL_get hy
 rw [show (0:Int)+(i:Int) * 1=i by exact om73]
 obtain ⟨σ1,S,h4,Out,D,rd,T,rfl,ok,G1,hx,hrl,hrd,hab,bk,htd,hatd,hne,hl,hR,gb⟩:=B
 refine t_asN (opF fun P1 i1=>T_cons (t_as (t_list0 ok fun fa N=>t_st (Nx.next ?_))))
 have hfσ:=N.free
 replace ok:=N.ok
 clear N
 have G2:GphR (upd σ1 fa (some (.list []))) S:=G1.new hfσ
 have hl2:HL (upd σ1 fa (some (.list []))) hd h4 (fun _=>[]) four:=hl.new hfσ
 have htf:td≠fa:=fun q=>by rw [q,hfσ] at htd;cases htd
 have htd2:upd σ1 fa (some (.list [])) td=some (.dictI (intKV svI T)):=by rw [upd_ne _ _ htf];exact htd
 have haf:ApartR S fa:=G1.own hfσ
 have hfa2:upd σ1 fa (some (.list [])) fa=some (.list []):=upd_self ..
 have hfh:fa≠hd:=fun q=>by rw [q] at hfσ;rw [hl.d] at hfσ;cases hfσ
 have hfl:∀ k∈four,fa≠h4 k:=fun k hk q=>by have:=hl.l k hk;rw [←q,hfσ] at this;cases this
 clear G1 hl htd hfσ
 generalize upd σ1 fa (some (.list []))=σ2 at ok G2 hl2 htd2 hfa2
 refine t_fit (frL12 rs x hd td fa i) ⟨rfl,rfl,rfl,rfl,rfl,rfl,rfl,trivial⟩ ?_
 have gf:=G2.fr (m:=mkm (frL12 rs x hd td fa i)) ok
 have gfx:=gf.hx
 rw [hx] at gfx
 have hrdV:∀ k∈rd,k∈V:=fun k hk=>((bk.ki.rdi k).mp hk).1
 have hrdl:rd.length≤46:=Nat.le_trans (nodup_len bk.ki.nd hrdV) gb.len
 refine T_cons (t_for (t_inst (C:=137) (f:=99) (t_loc rfl ⟨_,rfl,isInst_obj (.inl gfx) (.inl gf.hdx) rfl,t_a0 (CallT.self hx <| W_getready (n:=n+3) R gf hrl (by rw [gb.keys,hrd];exact hrdV) (by rw [hrd];exact om113 hrdl) fun S2 σ3 hab2 hrl2 hrd2 hpo2 hnf2 st=>?_)⟩) (k137_get _ _) (k137_ready _) (k99_ty _) (k99_kp _)))
 rw [hrd] at hab2 ⊢
 rw [hab] at hab2
 obtain ⟨σ4,rfl,ok,st⟩:=StepR.back G2 ok st
 have G4:=st.gph
 have gb4:=gb.step st
 obtain ⟨hl4,hR4⟩:=hl2.stepR hR st
 have htd4:=st.off _ _ htd2 hatd
 have hatd4:=st.apart htd2 hatd
 have hfa4:=st.off _ _ hfa2 haf
 have haf4:=st.apart hfa2 haf
 have hx4:=st.x.trans hx
 have e0:sgT σ4 td fa (T,[])=σ4:=by
  unfold sgT
  rw [upd_id (show σ4 fa=some (.list (intsL [])) from hfa4),upd_id htd4]
 have okS:∀ st,FrOk (sgT σ4 td fa st) L (csLaw L):=fun st=>by
  unfold sgT
  exact (ok.set _ hfa4).set _ (by rw [upd_ne _ _ htf];exact htd4)
 have sTd:∀ st,sgT σ4 td fa st td=some (.dictI (intKV svI st.1)):=fun st=>upd_self ..
 have sFa:∀ st,sgT σ4 td fa st fa=some (.list (intsL st.2)):=fun st=>by unfold sgT;rw [upd_ne _ _ (Ne.symm htf),upd_self]
 refine ⟨_,BkJ rs rd i T σ4 td fa L (frL12 rs x hd td fa i),it_tup R ⟨_,rfl,rfl⟩ ⟨_,_,rfl⟩,⟨T,[],rfl,by rw [e0]⟩,?_,?_⟩
 ·rintro j y σ' hy ⟨T1,fr1,hf,rfl⟩
  rw [List.getElem?_map,List.getElem?_map] at hy
  obtain ⟨z,hz,rfl⟩:=Option.map_eq_some_iff.mp hy
  obtain ⟨k,hk,rfl⟩:=Option.map_eq_some_iff.mp hz
  have hkr:=List.mem_of_getElem? hk
  have hkV:=hrdV k hkr
  have hnext:(rd.take (j+1)).foldl (bkStep rs i) (T,[])=bkStep rs i (T1,fr1) k:=by
   rw [List.take_add_one,hk,List.foldl_append,hf];rfl
  have hlen:=(bk_all (rs:=rs) (t:=i) (rd.take j) T [] List.nodup_nil nofun T1 fr1 hf).2.2.2.2
  have ok:=okS (T1,fr1)
  have std:=sTd (T1,fr1)
  have sfa:=sFa (T1,fr1)
  refine t_asN (t_fit (frL12n rs x hd td fa i k) ⟨rfl,rfl,rfl,rfl,rfl,rfl,rfl,rfl,trivial⟩ (opF fun P2 i2=>T_cons (T_if (T_isBool (T_and_cons (t_isCmp (t_loc rfl (T_int (O_ltI (truth_bool ⟨fun hb=>?_,fun hb=>?_⟩))))))))))
  ·have hneg:k < 0:=by simpa using hb
   obtain ⟨kk,r,hr,hkk,hnm⟩:=F.rule hkV hneg
   have hbl:=g.bl r (List.mem_of_getElem? hr)
   refine T_and_cons (t_isCmp (t_nm (kk:=kk) (by rw [g.len];decide) (om104 hbl) hr hkk (fun q=>t_loc rfl q) (fun q=>T_bin (T_un (T_int (O_neg (t_loc rfl (O_sub q)))))) (t_loc rfl (D_nin (DictR.I (.inl (fr_some ok std))) KeyR.int (truth_bool ⟨fun hb2=>T_and_nil ⟨fun _=>?_,nofun⟩,fun hb2=>⟨nofun,fun _=>?_⟩⟩))) (fun _ _=>⟨_,rfl⟩)))
   ·rw [sget_int] at hb2
    have hnone:aget T1 (nmOf rs k)=none:=by
     rw [hnm]
     cases e:aget T1 r.1 with
     | none=>rfl
     | some v=>rw [e] at hb2;cases hb2
    have hst:bkStep rs i (T1,fr1) k=(aset T1 r.1 (i:Int),fr1++[r.1]):=by
     unfold bkStep
     rw [if_pos ⟨hneg,hnone⟩,hnm]
    refine T_cons (T_assignSub (t_loc rfl (t_loc rfl (t_nm (kk:=kk) (by rw [g.len];decide) (om104 hbl) hr hkk (fun q=>t_loc rfl q) (fun q=>T_bin (T_un (T_int (O_neg (t_loc rfl (O_sub q)))))) (s_dictI ok std ?_ fun ok'=>Nx.next ?_) (fun _ _=>⟨_,rfl⟩)))) rfl)
    ·unfold intKV
     rw [List.length_map]
     have h1:=bk_len (rs:=rs) (t:=i) (rd.take j) (T,[])
     rw [hf] at h1
     have h2:(T.map (·.1)).length≤four.length:=nodup_len bk.kn fun z hz=>bk.dn z ((bk.tk z).mpr (aget_some.mpr hz))
     simp at h1 h2 ⊢
     exact om299 hrdl h1 h2
    ·rw [sgT_td] at ok' ⊢
     have sfa':=sFa (aset T1 r.1 (i:Int),fr1)
     refine T_cons (t_ex (t_meth m_append (t_loc rfl ⟨oft_list (.ref (fr_some ok' sfa')),t_a1 (t_nm (kk:=kk) (by rw [g.len];decide) (om104 hbl) hr hkk (fun q=>t_loc rfl q) (fun q=>T_bin (T_un (T_int (O_neg (t_loc rfl (O_sub q)))))) (o_append ok' sfa' ?_ fun ok''=>Nx.next ?_) (fun _ _=>⟨_,rfl⟩))⟩)))
     ·rw [List.length_map]
      show fr1.length≤1000
      simp at hlen
      exact om260 hrdl hlen
     ·rw [sgT_fa htf]
      exact t_fit (frL12 rs x hd td fa i) ⟨rfl,rfl,rfl,rfl,rfl,rfl,rfl,trivial⟩ (T_nil (Nx.next (T_nil (i2 _ ⟨_,_,hnext.trans hst,rfl⟩))))
   ·rw [sget_int] at hb2
    have hst:bkStep rs i (T1,fr1) k=(T1,fr1):=by
     unfold bkStep
     rw [if_neg]
     rintro ⟨_,z⟩
     rw [hnm] at z
     rw [z] at hb2;cases hb2
    exact t_fit (frL12 rs x hd td fa i) ⟨rfl,rfl,rfl,rfl,rfl,rfl,rfl,trivial⟩ (T_nil (Nx.next (T_nil (i2 _ ⟨_,_,hnext.trans hst,rfl⟩))))
  ·have hst:bkStep rs i (T1,fr1) k=(T1,fr1):=by
    unfold bkStep
    rw [if_neg]
    rintro ⟨z,_⟩
    simp at hb
    exact om36 z hb
   exact ⟨nofun,fun _=>t_fit (frL12 rs x hd td fa i) ⟨rfl,rfl,rfl,rfl,rfl,rfl,rfl,trivial⟩ (T_nil (Nx.next (T_nil (i2 _ ⟨_,_,hnext.trans hst,rfl⟩))))⟩
 ·rintro σ' ⟨T1,fr1,hf,rfl⟩
  rw [List.length_map,List.length_map,List.take_length] at hf
  obtain ⟨hnd,hfO,rd5,e5,bk5⟩:=Bk.step F g bk hf
  obtain ⟨e1,k1⟩:=bk.ki.out (su:=su)
  have ok:=okS (T1,fr1)
  have std:=sTd (T1,fr1)
  have sfa:=sFa (T1,fr1)
  have gS:GphR (sgT σ4 td fa (T1,fr1)) S2:=by
   unfold sgT
   refine GphR.off (G4.off hfa4 haf4 (by intro _ h;cases h) (by intro _ h;cases h) rfl) (o:=.dictI (intKV svI T)) (by rw [upd_ne _ _ htf];exact htd4) hatd4 (by intro _ h;cases h) (by intro _ h;cases h) rfl
  have hlS:HL (sgT σ4 td fa (T1,fr1)) hd h4 (fun _=>[]) four:=hl4.keep fun a ha o e=>by
   have h1:a≠td:=by
    rcases ha with rfl | ⟨z,hz,rfl⟩
    ·exact Ne.symm hne
    ·exact fun q=>by have:=hl4.l z hz;rw [q,htd4] at this;cases this
   have h2:a≠fa:=by
    rcases ha with rfl | ⟨z,hz,rfl⟩
    ·exact Ne.symm hfh
    ·exact Ne.symm (hfl z hz)
   unfold sgT
   rw [upd_ne _ _ h1,upd_ne _ _ h2];exact e
  have gf5:=gS.fr (m:=mkm (frL12 rs x hd td fa i)) ok
  have gfx5:=gf5.hx
  rw [hx4] at gfx5
  have hfour:∀ k∈fr1,k∈four:=fun k hk=>bk5.dn k (List.mem_append_left _ (List.mem_reverse.mpr hk))
  have hfl4:fr1.length≤four.length:=nodup_len hnd hfour
  have hfl4:fr1.length≤4:=hfl4
  have hab5:(absG S2,S2.rd)=(gOut (mkG V (npI P Out D) su) rd,[]):=by rw [hab2,hrd2]
  have hcl:∀ r∈S2.ns,∀ s∈r.su,s∈S2.ns.map (·.k):=fun r hr s hs=>by
   rw [gb4.sus r hr] at hs
   rw [gb4.keys]
   exact F.sg.suV (by rw [←gb4.keys];exact List.mem_map.mpr ⟨r,hr,rfl⟩) hs
  refine Nx.next (T_cons (t_ex (t_instS (C:=137) (f:=120) (t_loc rfl ⟨x,rfl,isInst2_obj (.inl gfx5) (.inl gf5.hdx) rfl,fun q=>TA_star (t_loc rfl ⟨intsL fr1,.inl (AsList.ref (fr_some ok sfa)),by rw [List.length_map];exact om107 hfl4,?_⟩)⟩) (k137_get _ _) (k137_dict _) (k137_done _) (k120_fn _) (k120_in _) (k120_get _) (k120_tk _) (by decide))))
  refine CodeT.self hx4 <| W_done (n:=n+3) (b:=46) R gf5 (hrl2.trans hrl) hcl (fun r hr=>by rw [gb4.sus r hr];exact gb4.sul _ (by rw [←gb4.keys];exact List.mem_map.mpr ⟨r,hr,rfl⟩)) (by rw [hrd2];simp;exact om106 hfl4) (om108 hfl4) (fun j k hjk=>?_) fun S5 σ5 hab6 hrl6 hrd6 hpo6 hnf6 st5=>?_
  ·rw [hab5,e1]
   exact ⟨by rw [gb4.keys];exact k1.oV k (hfO k (List.mem_of_getElem? hjk)).1,k1.handed F.sg hnd hfO hjk⟩
  ·obtain ⟨σ6,rfl,ok,st6⟩:=StepR.back gS ok st5
   rw [hab5,e5] at hab6 hrd6
   obtain ⟨hl6,hR6⟩:=hlS.stepR hR4 st6
   refine Nx.next (t_fit (frL11 rs x hd td) ⟨rfl,rfl,rfl,rfl,rfl,trivial⟩ (T_nil ?_))
   exact i1 _ ⟨σ6,S5,h4,_,_,rd5,T1,rfl,ok,st6.gph,st6.x.trans hx4,hrl6.trans (hrl2.trans hrl),hrd6,hab6,bk5,st6.off _ _ std hatd4,st6.apart std hatd4,hne,hl6,hR6,gb4.step st6⟩
end
end Mine
end
section
set_option maxHeartbeats 400000
namespace Mine
section
variable {G:GC} {A:Around} {σ:Sig} {n:Nat} {L f:Addr} {cd:Value}
theorem seg12b {ops:List Int} {rs:List Rule} (R:Rm (n+5) A) (g:Gram ops rs) {x hd a td:Addr} {V:List Int} {P su:Int→List Int} (F:Fst rs V P su (graphOf (bkKV rs) [])) (B:BkS σ L rs x hd a td V P su 0) :
  TF G.c A (execs [lawS G.w.params 12] (lawEnv (lawScope G.w.params) L f cd)) σ (NxP fun σ'=>BkS σ' L rs x hd a td V P su 5):=by
 refine T_cons ?_
 obtain ⟨tg,it,bd,p,e,_⟩:=turn12 (L:=L) (f:=f) (cd:=cd) R g F (i:=0) rfl B (Q:=fun _ _=>True)
 have hst:∀ {i:Nat} {y:SV} {σ:Sig} {Q:SFlow→Sig→Prop},(rngL 0 1 5)[i]?=some y→BkS σ L rs x hd a td V P su i→T1 G.c RU A (assign tg (lawEnv (lawScope G.w.params) L f cd)) y σ (fun _ σ2=>TF G.c A (execs bd (lawEnv (lawScope G.w.params) L f cd)) σ2 (ForEnd (BkS · L rs x hd a td V P su (i+1)) Q)):=fun {i y σ Q} hy B=>by
  obtain ⟨tg',it',bd',p',e',h⟩:=turn12 (L:=L) (f:=f) (cd:=cd) R g F hy B (Q:=Q)
  rw [e] at e'
  injection e' with h1 h2 h3 h4 h5
  subst h1;subst h3
  exact h
 have e2:lawS G.w.params 12=.For _ _ _ _ _:=rfl
 rw [e] at e2
 injection e2 with h1 h2 h3 h4 h5
 have htg:NameT tg:=by rw [h1];exact ⟨_,_,rfl⟩
 rw [e]
 subst h2
 clear h1 h3 h4 h5 e
 obtain ⟨σ1,S,h4,Out,D,rd,T,rfl,ok,rest⟩:=id B
 refine t_for (t_callB rfl (by rfl) (by decide) (kept_type _) (t_a1 (T_int (C_range1 fun t u v=>⟨rngL 0 1 5,fun i σ'=>BkS σ' L rs x hd a td V P su i,it_range (m:=5) R (by decide) (by decide) htg,B,fun i y σ' hy B=>hst hy B,fun σ' B=>?_⟩))))
 exact Nx.next (T_nil (NxP.next B))
end
theorem sget_four {h4:Int→Addr} {n:Int} (h:n∈four):sget (four.map fun k=>(k,SV.ref (h4 k))) n=some (.ref (h4 n)):=by
 simp only [four,List.mem_cons,List.not_mem_nil,or_false] at h
 rcases h with rfl | rfl | rfl | rfl <;> rfl
theorem pref_step {emp:Int→Bool} {b:List Int} {j:Nat} {x:Int} (hx:b[j]?=some x) (hb:∀ y∈b.take j,emp y=true) (h:emp x=false):pref emp b=b.take (j+1):=by
 induction b generalizing j with
 | nil=>simp at hx
 | cons a r ih =>
  cases j with
  | zero =>
   simp at hx;subst hx
   unfold pref;rw [if_neg (by rw [h];simp)];rfl
  | succ j =>
   have ha:emp a=true:=hb a (by simp)
   unfold pref
   rw [if_pos ha,List.take_succ_cons,ih (j:=j) (by simpa using hx) fun y hy=>hb y (by simp [hy])]
theorem pref_all {emp:Int→Bool}:∀ {b:List Int},(∀ y∈b,emp y=true)→pref emp b=b:=fun {l}=>by
 induction l with
 | nil=>exact fun _=>rfl
 | cons a r ih =>
  intro h
  unfold pref;rw [if_pos (h a (.head _)),ih fun y hy=>h y (.tail _ hy)]
theorem headsOf_len {emp:Int→Bool} {rs:List Rule} (hb:∀ r∈rs,r.2.length≤3) (i:Nat) (n:Int):(headsOf emp (rs.take i) n).length≤3 * i:=by
 have hl:(rs.take i).length≤i:=by rw [List.length_take];exact om154
 have hb':∀ r∈rs.take i,r.2.length≤3:=fun r hr=>hb r (List.mem_of_mem_take hr)
 generalize rs.take i=l at hl hb'
 unfold headsOf
 have:=heads_len (emp:=emp) (n:=n) l (fun _=>[])
 refine Nat.le_trans this ?_
 have h2:((l.filter fun r=>decide (r.1=n)).map fun r=>r.2.length).sum≤3 * l.length:=by
  clear this hl
  induction l with
  | nil=>simp
  | cons r t ih =>
   have:=ih fun r' h'=>hb' r' (.tail _ h')
   have h3:=hb' r (.head _)
   rw [List.filter_cons]
   split <;> simp <;> (first | exact om255 this h3 | exact om188 this)
 simp
 exact om277 hl h2
theorem headsOf_snoc {emp:Int→Bool} {rs:List Rule} {i:Nat} {r:Rule} (h:rs[i]?=some r):headsOf emp (rs.take (i+1))=fset (headsOf emp (rs.take i)) r.1 (headsOf emp (rs.take i) r.1++pref emp r.2):=by
 unfold headsOf
 rw [List.take_add_one,h,List.foldl_append]
 exact hScan_eq _ _ _ _
noncomputable def frL13 (rs:List Rule) (hd td:Addr):List (Str×SV):=[(nRules,.d (.list (rs.map ruleD))),(nRead,.d (readD rs)),(nHeads,.ref hd),(nTurns,.ref td)]
noncomputable def frL13r (rs:List Rule) (hd td:Addr) (r:Rule):List (Str×SV):=[(nRules,.d (.list (rs.map ruleD))),(nRead,.d (readD rs)),(nHeads,.ref hd),(nTurns,.ref td),(Str.ofString "rule",.d (pL (r.1 :: r.2)))]
noncomputable def frL13s (rs:List Rule) (hd td:Addr) (r:Rule) (x:Int):List (Str×SV):=[(nRules,.d (.list (rs.map ruleD))),(nRead,.d (readD rs)),(nHeads,.ref hd),(nTurns,.ref td),(Str.ofString "rule",.d (pL (r.1 :: r.2))),(Str.ofString "symbol",.d (.int x))]
noncomputable abbrev empT (T:List (Int×Int)) (s:Int):Bool:=(aget T s).isSome
inductive HdS (σ':Sig) (L:Addr) (l:List (Str×SV)) (hd td:Addr) (T:List (Int×Int)) (H:FMap):Prop
 | mk (σ1:Sig) (h4:Int→Addr) (e0:σ'=fr σ1 L (csLaw L) (mkm l)) (e1:FrOk σ1 L (csLaw L)) (e2:σ1 td=some (.dictI (intKV svI T))) (e3:HL σ1 hd h4 H four):HdS σ' L l hd td T H
theorem fset_self (H:FMap) (n:Int):fset H n (H n++[])=H:=by
 funext k
 rw [fset_eq]
 split
 ·rename_i q;subst q;simp
 ·rfl
theorem fset_fset (H:FMap) (n:Int) (a b:List Int):fset (fset H n a) n b=fset H n b:=by
 funext k
 simp only [fset_eq]
 split <;> rfl
section
variable {G:GC} {A:Around} {σ:Sig} {n:Nat} {L f:Addr} {cd:Value}
theorem seg13 {ops:List Int} {rs:List Rule} (R:Rm (n+5) A) (g:Gram ops rs) {x hd a td:Addr} {V:List Int} {P su:Int→List Int} (B:BkS σ L rs x hd a td V P su 5) :
  TF G.c A (execs [lawS G.w.params 13] (lawEnv (lawScope G.w.params) L f cd)) σ (NxP fun σ'=>∃ T,SameD T (emAt rs 4)∧(T.map (·.1)).Nodup∧HdS σ' L (frL13 rs hd td) hd td T (headsOf (fun s=>(aget (emAt rs 4) s).isSome) rs)):=by
 refine opP fun P0 i0=>?_
 refine eqv (Φ:=fun sc=>TF G.c A (execs _ (lawEnv sc L f cd)) _ _) (a':=⟨_,_,_,_,_⟩) rfl ?_
 refine T_cons (eqv (Φ:=fun st=>TF G.c A (exec st _) _ _) (a':=.For _ _ _ _ _) rfl ?_)
 obtain ⟨σ1,S,h4,Out,D,rd,T,rfl,ok,G1,hx,hrl,hrd,hab,bk,htd,hatd,hne,hl,hR,gb⟩:=B
 obtain ⟨hsame,hget⟩:=bk.turns g
 have hemp:(fun s=>(aget (emAt rs 4) s).isSome)=empT T:=funext fun s=>by rw [←hget s]
 rw [hemp] at i0
 have hkn:=bk.kn
 clear hemp hget bk G1 hx hrl hrd hab hatd hR gb
 refine t_fit (frL13 rs hd td) ⟨rfl,rfl,rfl,rfl,trivial⟩ (t_for (t_loc rfl ⟨_,fun i σ'=>HdS σ' L (frL13 rs hd td) hd td T (headsOf (empT T) (rs.take i)),it_list (xs:=rs.map fun r=>.d (pL (r.1 :: r.2))) R (.inr ⟨_,rfl,by simp [pL]⟩) (.inl ⟨_,_,rfl⟩),⟨σ1,h4,rfl,ok,htd,hl⟩,?_,?_⟩))
 ·rintro i y σ' hy ⟨σ2,h4,rfl,ok,htd,hl⟩
  rw [List.getElem?_map] at hy
  obtain ⟨r,hr,rfl⟩:=Option.map_eq_some_iff.mp hy
  have hrm:=List.mem_of_getElem? hr
  have hi:i < 6:=by rw [←g.len];exact (List.getElem?_eq_some_iff.mp hr).1
  have hbl:=g.bl r hrm
  have hn4:=isNm_four (g.hd r hrm)
  have hH:=headsOf_len (emp:=empT T) g.bl i
  have hnext:=headsOf_snoc (emp:=empT T) hr
  generalize headsOf (empT T) (rs.take i)=H0 at hl hH hnext
  have hget0:(((r.1 :: r.2).map PyData.int).map SV.d)[((0:Int)).toNat]?=some (.d (.int r.1)):=rfl
  refine t_asN (t_fit (frL13r rs hd td r) ⟨rfl,rfl,rfl,rfl,rfl,trivial⟩ (opF fun P1 i1=>T_cons (t_for (t_slice (t_loc rfl <| T_partSome <| T_int <| T_partNone ⟨(r.1 :: r.2).map PyData.int,some 1,none,(1:Int).toNat,((r.1 :: r.2).map PyData.int).length,.inl .d,by simp;exact om105 hbl,rfl,rfl,slice_from (by decide),?_⟩)))))
  rw [tail_d r _ (by simp)]
  refine ⟨_,fun j σ'=>(∀ y∈r.2.take j,empT T y=true)∧HdS σ' L (frL13r rs hd td r) hd td T (fset H0 r.1 (H0 r.1++r.2.take j)),it_ints R ⟨_,_,rfl⟩,⟨nofun,σ2,h4,rfl,ok,htd,by rw [List.take_zero,fset_self];exact hl⟩,?_,?_⟩
  ·rintro j z σ' hz ⟨hem,σ3,h4,rfl,ok,htd,hl⟩
   rw [List.getElem?_map] at hz
   obtain ⟨x,hx,rfl⟩:=Option.map_eq_some_iff.mp hz
   have hj:j < 3:=by have:=(List.getElem?_eq_some_iff.mp hx).1;exact om220 hbl this
   have hln:=hl.l r.1 hn4
   rw [fset_eq,if_pos rfl] at hln
   have htk:r.2.take (j+1)=r.2.take j++[x]:=by rw [List.take_add_one,hx];rfl
   refine t_asN (t_fit (frL13s rs hd td r x) ⟨rfl,rfl,rfl,rfl,rfl,rfl,trivial⟩ (opF fun P2 i2=>T_cons (t_ex (t_meth m_append (t_sub slot_dict_getitem.lookup (t_cell rfl ok (t_sub slot_list_getitem.lookup (t_loc rfl (T_int ⟨typeL .d,G_list .d (by decide) (by simp;exact om105 hbl) hget0 ⟨typeD (DictR.I (.inl (fr_some ok hl.d))),G_dict (DictR.I (.inl (fr_some ok hl.d))) KeyR.int (sget_four hn4) ⟨oft_list (.ref (fr_some ok hln)),t_a1 (t_loc rfl (o_append ok hln ?_ fun ok'=>Nx.next ?_))⟩⟩⟩)))))))))
   ·have:=hH r.1;simp;exact om305 hi hbl hj this
   ·have hl':=hl.app (x:=x) hn4
    rw [fset_eq,if_pos rfl,fset_fset,List.append_assoc,←htk] at hl'
    have htd':upd σ3 (h4 r.1) (some (.list (intsL (H0 r.1++r.2.take j)++[.d (.int x)]))) td=some (.dictI (intKV svI T)):=by
     rw [upd_ne _ _ (fun q=>by rw [q,hln] at htd;cases htd)];exact htd
    generalize upd σ3 (h4 r.1) (some (.list (intsL (H0 r.1++r.2.take j)++[.d (.int x)])))=σ5 at ok' hl' htd'
    refine T_cons (T_if (t_isCmp (t_loc rfl (t_loc rfl (D_nin (DictR.I (.inl (fr_some ok' htd'))) KeyR.int (truth_bool ⟨fun hb=>?_,fun hb=>?_⟩))))))
    ·rw [sget_int] at hb
     have hx0:empT T x=false:=by
      show (aget T x).isSome=false
      cases e:aget T x with
      | none=>rfl
      | some v=>rw [e] at hb;cases hb
     refine T_cons (T_break ?_)
     show Nx _ _ _ _ _ .next _
     refine Nx.next (t_fit (frL13 rs hd td) ⟨rfl,rfl,rfl,rfl,trivial⟩ (T_nil (i1 _ ⟨σ5,h4,rfl,ok',htd',?_⟩)))
     rw [hnext,pref_step hx hem hx0];exact hl'
    ·rw [sget_int] at hb
     have hx0:empT T x=true:=by
      show (aget T x).isSome=true
      cases e:aget T x with
      | none=>rw [e] at hb;cases hb
      | some v=>rfl
     refine T_nil (Nx.next (t_fit (frL13r rs hd td r) ⟨rfl,rfl,rfl,rfl,rfl,trivial⟩ (T_nil (i2 _ ⟨fun y hy=>?_,σ5,h4,rfl,ok',htd',hl'⟩))))
     rw [htk] at hy
     rcases List.mem_append.mp hy with hy | hy
     ·exact hem y hy
     ·rw [List.mem_singleton] at hy;subst hy;exact hx0
  ·rintro σ' ⟨hem,σ3,h4,rfl,ok,htd,hl⟩
   rw [List.length_map,List.take_length] at hem hl
   refine Nx.next (t_fit (frL13 rs hd td) ⟨rfl,rfl,rfl,rfl,trivial⟩ (T_nil (i1 _ ⟨σ3,h4,rfl,ok,htd,?_⟩)))
   rw [hnext,pref_all hem];exact hl
 ·rintro σ' B
  rw [List.length_map,List.take_length] at B
  exact Nx.next (T_nil (NxP.next (i0 _ ⟨T,hsame,hkn,B⟩)))
end
end Mine
end
section
set_option maxHeartbeats 400000
namespace Mine
theorem paired_refl {K:Type} {a:Addr} {ds:List PyData}:∀ (l:List (K×SV)),Paired (FrzP a ds) l l:=fun l=>by
 induction l with
 | nil=>exact .nil
 | cons x0 r ih =>
  exact .cons ⟨rfl,.inl rfl⟩ (ih)
section
variable {c:Cfg} {A:Around} {L:Addr} {cs:List (Str×Addr)} {m:Str→Option SV} {α β:Type} {Rv:FM→β→α→Prop} {t:Sem α} {P:β→Sig→Prop}
theorem t_frz {hd:Addr} {h4:Int→Addr} {H:FMap}:∀ (rest done:List Int) {σ:Sig},FrOk σ L cs→σ hd=some (.dictI (done.map (fun k=>(k,SV.d (pL (H k))))++rest.map fun k=>(k,.ref (h4 k))))→(∀ k∈rest,σ (h4 k)=some (.list (intsL (H k)))) →
  (∀ a∈rest,∀ b∈rest,h4 a=h4 b→a=b)→rest.Nodup →
  (∀ σ',FrOk σ' L cs→σ' hd=some (.dictI ((done++rest).map fun k=>(k,SV.d (pL (H k)))))→(∀ a o,σ a=some o→a≠hd→(∀ xs,o≠.list xs)→σ' a=some o)→TG c Rv A t (fr σ' L cs m) P)→TG c Rv A t (fr σ L cs m) P:=fun l=>by
 induction l with
 | nil=>exact fun done σ ok hd' _ _ _ T=>T σ ok (by rw [hd'];simp) fun _ _ e _ _=>e
 | cons k r ih =>
  intro done σ ok hd' hl hi hn T
  rw [List.nodup_cons] at hn
  have hk:=hl k (.head _)
  have hne:h4 k≠hd:=fun q=>by rw [q,hd'] at hk;cases hk
  refine t_freezeI (a:=h4 k) (d:=hd) (ds:=(H k).map PyData.int) (kvs':=(done++[k]).map (fun k=>(k,SV.d (pL (H k))))++r.map fun k=>(k,.ref (h4 k))) ok (by rw [hk];simp) hd' ?_ fun ok=>?_
  ·rw [List.map_append,List.append_assoc]
   refine paired_append ?_ (.cons ⟨rfl,.inr ⟨rfl,rfl⟩⟩ ?_)
   ·exact paired_refl _
   ·exact paired_refl _
  ·refine ih (done++[k]) ok (upd_self ..) (fun z hz=>?_) (fun a ha b hb=>hi a (.tail _ ha) b (.tail _ hb)) hn.2 fun σ' ok' hd2 kk=>T σ' ok' (by rw [hd2];simp) fun a o e h1 h2=>kk a o ?_ h1 h2
   ·have hz':=hl z (.tail _ hz)
    have n1:h4 z≠hd:=fun q=>by rw [q,hd'] at hz';cases hz'
    have n2:h4 z≠h4 k:=fun q=>hn.1 (hi z (.tail _ hz) k (.head _) q▸hz)
    rw [upd_ne _ _ n1,upd_ne _ _ n2];exact hz'
   ·have n2:a≠h4 k:=fun q=>by rw [q,hk] at e;exact h2 _ (Option.some.inj e).symm
    rw [upd_ne _ _ h1,upd_ne _ _ n2];exact e
theorem t_lock1 {σ:Sig} {a:Addr} {o:SObj} (ok:FrOk σ L cs) (ha:σ a=some o) (hr:o.isRo=false) (T:FrOk (upd σ a (some (.ro o))) L cs→TG c Rv A t (fr (upd σ a (some (.ro o))) L cs m) P):TG c Rv A t (fr σ L cs m) P:=by
 refine TG.relock (σ':=fr (upd σ a (some (.ro o))) L cs m) (fun b=>?_) (T (ok.set _ ha))
 rw [←upd_fr_some ok _ ha]
 by_cases q:b=a
 ·subst q;rw [upd_self];exact .inr ⟨o,fr_some ok ha,hr,rfl⟩
 ·rw [upd_ne _ _ q];exact .inl rfl
end
noncomputable def sum4 (H:FMap):Nat:=(H 256).length+(H 257).length+(H 258).length+(H 259).length
theorem sum4_step (H:FMap) (n:Int) (p:List Int):sum4 (fset H n (H n++p))≤sum4 H+p.length:=by
 unfold sum4
 simp only [fset_eq]
 by_cases h1:n=256
 ·subst h1;simp;exact om310
 ·by_cases h2:n=257
  ·subst h2;simp;exact om311
  ·by_cases h3:n=258
   ·subst h3;simp;exact om312
   ·by_cases h4:n=259
    ·subst h4;simp;exact om313
    ·rw [if_neg (Ne.symm h1),if_neg (Ne.symm h2),if_neg (Ne.symm h3),if_neg (Ne.symm h4)];exact om314
theorem sum4_heads {emp:Int→Bool}:∀ (rs:List Rule) (H:FMap),(∀ r∈rs,r.2.length≤3)→sum4 (rs.foldl (fun H r=>hScan emp r.1 H r.2) H)≤sum4 H+3 * rs.length
 | [],H,_=>by simp
 | r :: t,H,hb=>by
  rw [List.foldl_cons]
  have h1:=sum4_heads (emp:=emp) t (hScan emp r.1 H r.2) fun r' h'=>hb r' (.tail _ h')
  have h2:sum4 (hScan emp r.1 H r.2)≤sum4 H+(pref emp r.2).length:=by rw [hScan_eq];exact sum4_step _ _ _
  have h3:=pref_len (emp:=emp) r.2
  have h4:=hb r (.head _)
  simp;exact om325 h1 h2 h3 h4
theorem bd_heads {ops:List Int} {rs:List Rule} (g:Gram ops rs) (emp:Int→Bool):bdOf (hKV (headsOf emp rs))≤40:=by
 have h:=sum4_heads (emp:=emp) rs (fun _=>[]) g.bl
 rw [g.len] at h
 have:bdOf (hKV (headsOf emp rs))=4+2 * sum4 (headsOf emp rs):=by
  unfold bdOf hKV sum4
  simp [four];exact om282
 rw [this]
 unfold headsOf
 have h0:sum4 (fun _=>([]:List Int))=0:=rfl
 exact om196 h h0
noncomputable abbrev nSorter:=Str.ofString "sorter"
noncomputable abbrev nRing:=Str.ofString "ring"
noncomputable abbrev nHeld:=Str.ofString "held"
noncomputable def frL14 (rs:List Rule) (hd td sx:Addr):List (Str×SV):=[(nRules,.d (.list (rs.map ruleD))),(nHeads,.ref hd),(nTurns,.ref td),(nSorter,.ref sx)]
noncomputable def frL15 (rs:List Rule) (hd td sx:Addr) (rv:SV):List (Str×SV):=[(nRules,.d (.list (rs.map ruleD))),(nHeads,.ref hd),(nTurns,.ref td),(nSorter,.ref sx),(nRing,rv)]
noncomputable def frL16 (rs:List Rule) (hd td sx:Addr) (rv:SV) (b:Bool):List (Str×SV):=[(nRules,.d (.list (rs.map ruleD))),(nHeads,.ref hd),(nTurns,.ref td),(nSorter,.ref sx),(nRing,rv),(nHeld,.d (.bool b))]
structure SrtA (σ1:Sig) (S:SS) (sx hd td:Addr) (T:List (Int×Int)) (H:FMap):Prop where
 g:GphR σ1 S
 x:S.x=sx
 htd:σ1 td=some (.dictI (intKV svI T))
 atd:ApartR S td
 hhd:σ1 hd=some (.ro (.dictI ((hKV H).map fun p=>(p.1,SV.d (pL p.2)))))
 ahd:ApartR S hd
theorem SrtA.keep {σ1 σ2:Sig} {S:SS} {sx hd td:Addr} {T:List (Int×Int)} {H:FMap} (h:SrtA σ1 S sx hd td T H) (k:∀ a o,σ1 a=some o→σ2 a=some o):SrtA σ2 S sx hd td T H :=
 ⟨h.g.keepG k,h.x,k _ _ h.htd,h.atd,k _ _ h.hhd,h.ahd⟩
theorem SrtA.step {σ1 σ2:Sig} {S S2:SS} {sx hd td:Addr} {T:List (Int×Int)} {H:FMap} (h:SrtA σ1 S sx hd td T H) (st:StepR σ1 σ2 S S2):SrtA σ2 S2 sx hd td T H :=
 ⟨st.gph,st.x.trans h.x,st.off _ _ h.htd h.atd,st.apart h.htd h.atd,st.off _ _ h.hhd h.ahd,st.apart h.hhd h.ahd⟩
inductive Srt (σ':Sig) (L:Addr) (l:List (Str×SV)) (sx hd td:Addr) (T:List (Int×Int)) (H:FMap):Prop
 | mk (σ1:Sig) (S:SS) (e0:σ'=fr σ1 L (csLaw L) (mkm l)) (e1:FrOk σ1 L (csLaw L)) (e2:SrtA σ1 S sx hd td T H) (e3:NewS S) (e4:absG S=graphOf (hKV H) []):Srt σ' L l sx hd td T H
section
variable {G:GC} {A:Around} {σ:Sig} {n:Nat} {L f:Addr} {cd:Value}
theorem seg14 {ops:List Int} {rs:List Rule} (R:Rm (n+6) A) (g:Gram ops rs) {hd td:Addr} {T:List (Int×Int)} {emp:Int→Bool} (B:HdS σ L (frL13 rs hd td) hd td T (headsOf emp rs)) :
  TF G.c A (execs [lawS G.w.params 14] (lawEnv (lawScope G.w.params) L f cd)) σ (NxP fun σ'=>∃ sx,Srt σ' L (frL14 rs hd td sx) sx hd td T (headsOf emp rs)):=by
 refine eqv (Φ:=fun sc=>TF G.c A (execs _ (lawEnv sc L f cd)) _ _) (a':=⟨_,_,_,_,_⟩) rfl ?_
 obtain ⟨σ1,h4,rfl,ok,htd,hl⟩:=B
 have hbd:=bd_heads g emp
 have hlen:∀ p∈hKV (headsOf emp rs),p.2.length≤100:=fun p hp=>by
  obtain ⟨k,_,rfl⟩:=List.mem_map.mp hp
  have:=headsOf_len (emp:=emp) g.bl 6 k
  rw [List.take_of_length_le (by rw [g.len];exact Nat.le_refl _)] at this
  show (headsOf emp rs k).length≤100
  exact om92 this
 generalize headsOf emp rs=H at hl hbd hlen
 have hne:td≠hd:=fun q=>by
  have h2:=hl.d
  rw [←q,htd] at h2
  cases T with
  | nil=>simp [intKV] at h2
  | cons p r=>simp [intKV,four] at h2
 refine t_frz (H:=H) four [] ok hl.d hl.l hl.inj (by decide) fun σ2 ok hd2 kk=>t_lock1 ok hd2 rfl fun ok=>?_
 have htd2:upd σ2 hd (some (.ro (.dictI ((([]:List Int)++four).map fun k=>(k,SV.d (pL (H k))))))) td=some (.dictI (intKV svI T)):=by
  rw [upd_ne _ _ hne];exact kk _ _ htd hne (by intro _ h;cases h)
 have hhd2:upd σ2 hd (some (.ro (.dictI ((([]:List Int)++four).map fun k=>(k,SV.d (pL (H k))))))) hd=some (.ro (.dictI ((hKV H).map fun p=>(p.1,SV.d (pL p.2))))):=by
  rw [upd_self];unfold hKV;rw [List.map_map];rfl
 generalize upd σ2 hd (some (.ro (.dictI ((([]:List Int)++four).map fun k=>(k,SV.d (pL (H k)))))))=σ3 at ok htd2 hhd2
 refine T_cons (eqv (Φ:=fun st=>TF G.c A (exec st _) _ _) (a':=.Assign _ _ _) rfl ?_)
 refine t_as (t_callG (v:=.ref 137) rfl rfl (t_a1 (t_cell rfl ok (W_sorter1 (n:=n) R (fr_some ok hhd2) (om110 hbd) hlen fun S σ4 hn hab G1 fr1=>?_))))
 obtain ⟨σ5,rfl,ok5,k5⟩:=keep_back ok fun a o e=>(fr1 a o e).1
 have at1:=(fr1 td _ (fr_some ok htd2)).2.1
 have at2:=(fr1 hd _ (fr_some ok hhd2)).2.1
 have G2:=G1.back
 refine t_st (Nx.next (t_fit (frL14 rs hd td S.x) ⟨rfl,rfl,rfl,rfl,trivial⟩ (t_lock G2 ok5 fun ok=>T_nil (NxP.next ⟨S.x,_,S,rfl,ok,⟨G2.lock,rfl,?_,at1.R,?_,at2.R⟩,hn,hab⟩))))
 ·rw [lockS_off at1];exact k5 _ _ htd2
 ·rw [lockS_off at2];exact k5 _ _ hhd2
end
end Mine
end
section
set_option maxHeartbeats 400000
namespace Mine
section
variable (p:Params)
theorem k55_exm:exmOne (KP p) (.ref 55) (.ref 55)=some true:=by kernel_rfl
end
theorem CodeR.self {c:Cfg} {C:Addr} {A:Around} {σ:Sig} {f:Value} {a b:Addr} {X:Sig→Prop} (e:a=b) (h:CodeR c C A f [.ref a] σ X):CodeR c C A f [.ref b] σ X:=e▸h
noncomputable def RingV (g:AG) (rv:SV):Prop:=(Acyc g∧rv=.d .none)∨∃ ring,IsRing g ring∧ring.length≤60∧rv=.d (.list (ring.map PyData.int))
structure SrtB (S:SS) (V:List Int) (H:FMap) (su:Int→List Int):Prop where
 gb:GB S V su 40
 cl:∀ r∈S.ns,∀ s∈r.su,s∈S.ns.map (·.k)
 len:S.ns.length≤50
theorem SrtB.of {S:SS} {V:List Int} {H f:FMap} {su:Int→List Int} {np:Int→Int} (hab:absG S=mkG V np su) (sg:SG V H su) (hb:Bd (absG S) 40):SrtB S V H su:=by
 have gb:=GB.of hab hb
 refine ⟨gb,fun r hr s hs=>?_,?_⟩
 ·rw [gb.sus r hr] at hs
  rw [gb.keys]
  exact sg.suV (by rw [←gb.keys];exact List.mem_map.mpr ⟨r,hr,rfl⟩) hs
 ·rw [←List.length_map (f:=(·.k)),gb.keys];have:=gb.len;exact om112 this
section
variable {G:GC} {A:Around} {σ:Sig} {n:Nat} {L f:Addr} {cd:Value}
theorem seg15 {rs:List Rule} (R:Rm (n+6) A) (hA:A.frames=some [lawEnv (lawScope G.w.params) L f cd]) {sx hd td:Addr} {T:List (Int×Int)} {H ff:FMap} {V:List Int} {su:Int→List Int} (C:Sec H ff V su (graphOf (hKV H) [])) (hbd:bdOf (hKV H)≤40) (B:Srt σ L (frL14 rs hd td sx) sx hd td T H) :
  TF G.c A (execs [lawS G.w.params 15] (lawEnv (lawScope G.w.params) L f cd)) σ (NxP fun σ'=>∃ rv,RingV (graphOf (hKV H) []) rv∧Srt σ' L (frL15 rs hd td sx rv) sx hd td T H):=by
 obtain ⟨σ1,S,rfl,ok,sa,hn,hab⟩:=B
 have sb:SrtB S V H su:=SrtB.of (f:=ff) (hab.trans C.eq) C.sg (by rw [hab];have:=Bd.graph (kvs:=hKV H) Bd.nil;exact this.mono (om109 hbd))
 have hfA:FrA A (fr σ1 L (csLaw L) (mkm (frL14 rs hd td sx))) [lawEnv (lawScope G.w.params) L f cd]:=law_frA hA
 refine eqv (Φ:=fun sc=>TF G.c A (execs _ (lawEnv sc L f cd)) _ _) (a':=⟨_,_,_,_,_⟩) rfl ?_
 refine T_cons (eqv (Φ:=fun st=>TF G.c A (exec st _) _ _) (a':=.Assign _ _ _) rfl ?_)
 have gf:=sa.g.fr (m:=mkm (frL14 rs hd td sx)) ok
 have gfx:=gf.hx
 rw [sa.x] at gfx
 refine t_as (t_inst (C:=137) (f:=127) (t_loc rfl ⟨_,rfl,isInst_obj (.inl gfx) (.inl gf.hdx) rfl,t_a0 (CallT.self sa.x <| W_findcycle (n:=n+4) R hfA gf sb.cl sb.len (fun hac σ3 k=>?_) (fun ring hring hrl σ3 k=>?_))⟩) (k137_get _ _) (k137_find _) (k127_ty _) (k127_kp _))
 ·obtain ⟨σ4,rfl,ok,k4⟩:=keep_back ok k
  refine t_stC ok (Nx.next (t_fit (frL15 rs hd td sx (.d .none)) ⟨rfl,rfl,rfl,rfl,rfl,trivial⟩ (T_nil (NxP.next ⟨.d .none,.inl ⟨hab▸hac,rfl⟩,σ4,S,rfl,ok,sa.keep k4,hn,hab⟩))))
 ·obtain ⟨σ4,rfl,ok,k4⟩:=keep_back ok k
  refine t_stC ok (Nx.next (t_fit (frL15 rs hd td sx (.d (.list (ring.map PyData.int)))) ⟨rfl,rfl,rfl,rfl,rfl,trivial⟩ (T_nil (NxP.next ⟨_,.inr ⟨ring,hab▸hring,hrl,rfl⟩,σ4,S,rfl,ok,sa.keep k4,hn,hab⟩))))
inductive Srd (σ':Sig) (L:Addr) (l:List (Str×SV)) (sx a hd td:Addr) (T:List (Int×Int)) (H:FMap) (g:AG) (rd:List Int) (po:Int):Prop
 | mk (σ1:Sig) (S:SS) (e0:σ'=fr σ1 L (csLaw L) (mkm l)) (e1:FrOk σ1 L (csLaw L)) (e2:SrtA σ1 S sx hd td T H) (e3:S.rl=some a) (e4:S.rd=rd) (e5:S.po=po) (e6:S.nf=po) (e7:absG S=g):Srd σ' L l sx a hd td T H g rd po
theorem seg17 {rs:List Rule} (R:Rm (n+6) A) (hA:A.frames=some [lawEnv (lawScope G.w.params) L f cd]) {sx hd td:Addr} {T:List (Int×Int)} {H ff:FMap} {V:List Int} {su:Int→List Int} (C:Sec H ff V su (graphOf (hKV H) [])) (hbd:bdOf (hKV H)≤40) {rv:SV} (B:Srt σ L (frL15 rs hd td sx rv) sx hd td T H) :
  TF G.c A (execs [lawS G.w.params 16,lawS G.w.params 17] (lawEnv (lawScope G.w.params) L f cd)) σ (NxP fun σ'=>∃ a held,(held=true↔¬Acyc (graphOf (hKV H) []))∧Srd σ' L (frL16 rs hd td sx rv held) sx a hd td T H (graphOf (hKV H) []) (readyG (graphOf (hKV H) [])) 0):=by
 obtain ⟨σ1,S,rfl,ok,sa,hn,hab⟩:=B
 have sb:SrtB S V H su:=SrtB.of (f:=ff) (hab.trans C.eq) C.sg (by rw [hab];have:=Bd.graph (kvs:=hKV H) Bd.nil;exact this.mono (om109 hbd))
 have hfA:∀ σ m,FrA A (fr σ L (csLaw L) m) [lawEnv (lawScope G.w.params) L f cd]:=fun _ _=>law_frA hA
 clear hA
 refine eqv (Φ:=fun sc=>(∀ σ m,FrA A (fr σ L (csLaw L) m) [lawEnv sc L f cd])→TF G.c A (execs _ (lawEnv sc L f cd)) _ _) (a':=⟨_,_,_,_,_⟩) rfl (fun hfA=>?_) hfA
 refine T_cons (eqv (Φ:=fun st=>TF G.c A (exec st _) _ _) (a':=.Assign _ _ _) rfl ?_)
 refine t_as (T_true (t_st (Nx.next (t_fit (frL16 rs hd td sx rv false) ⟨rfl,rfl,rfl,rfl,rfl,rfl,trivial⟩ ?_))))
 have gf:=sa.g.fr (m:=mkm (frL16 rs hd td sx rv false)) ok
 have gfx:=gf.hx
 rw [sa.x] at gfx
 refine T_cons (eqv (Φ:=fun st=>TF G.c A (exec st _) _ _) (a':=.Try _ _ _ _ _) rfl ?_)
 by_cases hac:Acyc (graphOf (hKV H) [])
 ·refine T_tryNo (T_cons (t_ex (t_inst (C:=137) (f:=92) (t_loc rfl ⟨_,rfl,isInst_obj (.inl gfx) (.inl gf.hdx) rfl,t_a0 (CallT.self sa.x <| W_prepare0 (n:=n+3) R (hfA _ _) gf hn.rl sb.cl sb.len (by rw [hab];exact hac) fun S2 σ3 pq=>?_)⟩) (k137_get _ _) (k137_prep _) (k92_ty _) (k92_kp _))))
  obtain ⟨σ4,rfl,ok,st⟩:=StepR.back sa.g ok pq.st
  obtain ⟨a,hrl,_⟩:=pq.rl
  refine Nx.next (T_nil (Nx.next (T_nil (NxP.next ⟨a,false,⟨nofun,fun h=>absurd hac h⟩,σ4,S2,rfl,ok,sa.step st,hrl,pq.rd.trans (by rw [hab]),pq.po.trans hn.po,pq.nf.trans hn.nf,pq.ab.trans hab⟩))))
 ·refine T_tryOwn (C:=55) (outer:=[]) (fun σ'=>∃ S',PrepQ (fr σ1 L (csLaw L) (mkm (frL16 rs hd td sx rv false))) σ' S S') rfl (Y_cons (Y_expr (Y_inst (CC:=137) (f:=92) (t_loc rfl ⟨_,rfl,isInst_obj (.inl gfx) (.inl gf.hdx) rfl,CodeR.self sa.x <| W_prepareR (n:=n+3) R (hfA _ _) gf hn.rl sb.cl sb.len (by rw [hab];exact hac)⟩) (k137_get _ _) (k137_prep _) (k92_ty _) (k92_kp _)))) (fun σ' ⟨S',pq⟩=>?_) (fun σ' e ⟨S',pq⟩=>?_) rfl (k55_exm _)
  ·obtain ⟨σ4,rfl,ok,st⟩:=StepR.back sa.g ok pq.st
   exact hfA _ _
  ·obtain ⟨σ4,rfl,ok,st⟩:=StepR.back sa.g ok pq.st
   obtain ⟨a,hrl,_⟩:=pq.rl
   refine T_cons (t_as (T_true (t_st (Nx.next (t_fit (frL16 rs hd td sx rv true) ⟨rfl,rfl,rfl,rfl,rfl,rfl,trivial⟩ (T_nil ?_))))))
   refine Nx.next (T_nil (NxP.next ⟨a,true,⟨fun _=>hac,fun _=>rfl⟩,σ4,S',rfl,ok,sa.step st,hrl,pq.rd.trans (by rw [hab]),pq.po.trans hn.po,pq.nf.trans hn.nf,pq.ab.trans hab⟩))
end
end Mine
end
section
set_option maxHeartbeats 1000000
namespace Mine
theorem GB.of2 {S:SS} {V:List Int} {np np0:Int→Int} {su:Int→List Int} {b:Nat} (h:absG S=mkG V np su) (hb:Bd (mkG V np0 su) b):GB S V su b:=by
 have hk:S.ns.map (·.k)=V:=by rw [←abs_keys,h,mkG_keys]
 have hs:∀ r∈absG S,r.su=su r.k:=fun r hr=>by
  rw [h] at hr
  obtain ⟨k,_,rfl⟩:=List.mem_map.mp hr
  rfl
 refine ⟨hk,fun r hr=>hs ⟨r.k,r.np,r.su⟩ (List.mem_map.mpr ⟨r,hr,rfl⟩),?_,fun k hk2=>?_⟩
 ·have:=hb.len
  unfold mkG at this
  rwa [List.length_map] at this
 ·exact hb.su ⟨k,np0 k,su k⟩ (List.mem_map.mpr ⟨k,hk2,rfl⟩)
noncomputable abbrev nTold:=Str.ofString "told"
noncomputable abbrev nHanded:=Str.ofString "handed"
noncomputable def frL20 (rs:List Rule) (hd td sx:Addr) (rv:SV) (b:Bool) (tl:Addr) (k:Int):List (Str×SV):=[(nRules,.d (.list (rs.map ruleD))),(nHeads,.ref hd),(nTurns,.ref td),(nSorter,.ref sx),(nRing,rv),(nHeld,.d (.bool b)),(nTold,.ref tl),(nHanded,.d (.int k))]
noncomputable def frL20t (rs:List Rule) (hd td sx:Addr) (rv:SV) (b:Bool) (tl:Addr) (k t:Int) (grp:List Int):List (Str×SV):=[(nRules,.d (.list (rs.map ruleD))),(nHeads,.ref hd),(nTurns,.ref td),(nSorter,.ref sx),(nRing,rv),(nHeld,.d (.bool b)),(nTold,.ref tl),(nHanded,.d (.int k)),(Str.ofString "turn",.d (.int t)),(Str.ofString "group",.d (.tuple (grp.map PyData.int)))]
noncomputable def frL20n (rs:List Rule) (hd td sx:Addr) (rv:SV) (b:Bool) (tl:Addr) (k t:Int) (grp:List Int) (x:Int):List (Str×SV):=[(nRules,.d (.list (rs.map ruleD))),(nHeads,.ref hd),(nTurns,.ref td),(nSorter,.ref sx),(nRing,rv),(nHeld,.d (.bool b)),(nTold,.ref tl),(nHanded,.d (.int k)),(Str.ofString "turn",.d (.int t)),(Str.ofString "group",.d (.tuple (grp.map PyData.int))),(Str.ofString "node",.d (.int x))]
noncomputable def frL20s (rs:List Rule) (hd td sx:Addr) (rv:SV) (b:Bool) (tl:Addr) (k t:Int) (grp:List Int) (x:Int) (st:List Int):List (Str×SV):=[(nRules,.d (.list (rs.map ruleD))),(nHeads,.ref hd),(nTurns,.ref td),(nSorter,.ref sx),(nRing,rv),(nHeld,.d (.bool b)),(nTold,.ref tl),(nHanded,.d (.int k)),(Str.ofString "turn",.d (.int t)),(Str.ofString "group",.d (.tuple (grp.map PyData.int))),(Str.ofString "node",.d (.int x)),(Str.ofString "starts",.d (.list (st.map PyData.int)))]
theorem sget_hk {H:FMap} {x:Int} (h:x∈four):sget ((hKV H).map fun p=>(p.1,SV.d (pL p.2))) x=some (.d (pL (H x))):=by
 simp only [four,List.mem_cons,List.not_mem_nil,or_false] at h
 rcases h with rfl | rfl | rfl | rfl <;> rfl
theorem Sx_len {ops:List Int} {ff:FMap} (inv:FrInv ops ff) (ho:ops.length≤3) (h:Int):(Sx ff h).length≤3:=by
 unfold Sx
 split
 ·exact (by decide:1≤3)
 ·rw [(sortI_perm _).length_eq]
  exact Nat.le_trans (nodup_len (starts_nd inv h) fun y hy=>starts_op inv hy) ho
theorem flat_len {g:Int→List Int} (hg:∀ h,(g h).length≤3):∀ l:List Int,(l.flatMap g).length≤3 * l.length
 | []=>by simp
 | a :: r=>by
  have:=flat_len hg r
  have:=hg a
  rw [List.flatMap_cons,List.length_append,List.length_cons];exact om255 ‹_› this
inductive RdS (σ':Sig) (L:Addr) (rs:List Rule) (rv:SV) (b:Bool) (sx a hd td tl:Addr) (T:List (Int×Int)) (H ff:FMap) (V:List Int) (su:Int→List Int) (t:Nat):Prop
 | mk (σ1:Sig) (S:SS) (Lh:List Int) (rd:List Int) (e0:σ'=fr σ1 L (csLaw L) (mkm (frL20 rs hd td sx rv b tl (Lh.length:Nat)))) (e1:FrOk σ1 L (csLaw L)) (e2:SrtA σ1 S sx hd td T H) (e3:S.rl=some a) (e4:S.rd=rd) (e5:S.po=(Lh.length:Nat)) (e6:S.nf=(Lh.length:Nat)) (e7:absG S=mkG V (npI H Lh Lh) su) (e8:Rnd H ff V t Lh rd) (e9:σ1 tl=some (.dictI (dueKV (toldL ff Lh)))) (e10:ApartR S tl) (e11:tl≠td):RdS σ' L rs rv b sx a hd td tl T H ff V su t
section
variable {G:GC} {A:Around} {σ:Sig} {n:Nat} {L f:Addr} {cd:Value}
theorem seg1819 {rs:List Rule} {sx a hd td:Addr} {T:List (Int×Int)} {H ff:FMap} {V:List Int} {su:Int→List Int} (C:Sec H ff V su (graphOf (hKV H) [])) {rv:SV} {b:Bool}
  (B:Srd σ L (frL16 rs hd td sx rv b) sx a hd td T H (graphOf (hKV H) []) (readyG (graphOf (hKV H) [])) 0) :
  TF G.c A (execs [lawS G.w.params 18,lawS G.w.params 19] (lawEnv (lawScope G.w.params) L f cd)) σ (NxP fun σ'=>∃ tl,RdS σ' L rs rv b sx a hd td tl T H ff V su 0):=by
 obtain ⟨σ1,S,rfl,ok,sa,hrl,hrd,hpo,hnf,hab⟩:=B
 refine eqv (Φ:=fun sc=>TF G.c A (execs _ (lawEnv sc L f cd)) _ _) (a':=⟨_,_,_,_,_⟩) rfl ?_
 refine T_cons (eqv (Φ:=fun st=>TF G.c A (exec st _) _ _) (a':=.Assign _ _ _) rfl ?_)
 refine t_as (t_dict0I ok fun tl N=>t_stC N.ok (Nx.next ?_))
 have hσ:=N.free
 replace ok:=N.ok
 clear N
 refine T_cons (eqv (Φ:=fun st=>TF G.c A (exec st _) _ _) (a':=.Assign _ _ _) rfl ?_)
 refine t_as (T_int (t_st (Nx.next (t_fit (frL20 rs hd td sx rv b tl ((([]:List Int).length:Nat):Int)) ⟨rfl,rfl,rfl,rfl,rfl,rfl,rfl,rfl,trivial⟩ (T_nil (NxP.next ⟨tl,_,S,[],_,rfl,ok,sa.keep fun z o e=>by rw [upd_ne _ _ (fun q=>by rw [q,hσ] at e;cases e)];exact e,hrl,hrd,hpo,hnf,hab.trans C.eq,?_,upd_self ..,sa.g.own hσ,fun q=>?_⟩))))))
 ·rw [C.eq,KI.start_rd];exact Rnd.start (G:=C.sg)
 ·have:=sa.htd;rw [←q,hσ] at this;cases this
theorem turn20 {ops:List Int} {rs:List Rule} (R:Rm (n+6) A) (g:Gram ops rs) {sx a hd td tl:Addr} {T:List (Int×Int)} {H ff:FMap} {V:List Int} {su:Int→List Int} (C:Sec H ff V su (graphOf (hKV H) [])) (inv:FrInv ops ff) (hbd:bdOf (hKV H)≤40) (hHl:∀ k,(H k).length≤18) (hVs:∀ k∈V,IsSym k) (hVl:V.length≤7) {rv:SV} {b:Bool} {i:Nat} {y:SV}
  (hy:(rngL 0 1 6)[i]?=some y) (B:RdS σ L rs rv b sx a hd td tl T H ff V su i) {Q:SFlow→Sig→Prop} :
  ∃ tg it bd p,lawS G.w.params 20=.For tg it bd [] p∧T1 G.c RU A (assign tg (lawEnv (lawScope G.w.params) L f cd)) y σ (fun _ σ2=>TF G.c A (execs bd (lawEnv (lawScope G.w.params) L f cd)) σ2 (ForEnd (RdS · L rs rv b sx a hd td tl T H ff V su (i+1)) Q)):=by
 refine ⟨_,_,_,_,rfl,?_⟩
 refine eqv (Φ:=fun sc=>T1 G.c RU A (assign _ (lawEnv sc L f cd)) _ _ (fun _ σ2=>TF G.c A (execs _ (lawEnv sc L f cd)) σ2 _)) (a':=⟨_,_,_,_,_⟩) rfl ?_
 obtain ⟨hi,rfl⟩:=rngL_get hy
 rw [show (0:Int)+(i:Int) * 1=i by exact om73]
 obtain ⟨σ1,S,Lh,rd,rfl,ok,sa,hrl,hrd,hpo,hnf,hab,rnd,htl,hatl,hne⟩:=B
 have gb:GB S V su 40:=GB.of2 hab (by
  rw [←C.eq]
  have:=Bd.graph (kvs:=hKV H) Bd.nil
  exact this.mono (om109 hbd))
 have hrdV:∀ k∈rd,k∈V:=fun k hk=>(C.at rnd hk).1
 have hrdl:rd.length≤40:=Nat.le_trans (nodup_len rnd.ki.nd hrdV) gb.len
 have hLhl:Lh.length≤40:=Nat.le_trans (nodup_len rnd.nd fun k hk=>rnd.ki.oV k hk) gb.len
 refine t_asN (opF fun P1 i1=>T_cons (t_as ?_))
 have gf:=sa.g.fr (m:=setm (mkm (frL20 rs hd td sx rv b tl (Lh.length:Nat))) (Str.ofString "turn") (.d (.int i))) ok
 have gfx:=gf.hx
 rw [sa.x] at gfx
 refine t_inst (C:=137) (f:=99) (t_loc rfl ⟨_,rfl,isInst_obj (.inl gfx) (.inl gf.hdx) rfl,t_a0 (CallT.self sa.x <| W_getready (n:=n+4) R gf hrl (by rw [gb.keys,hrd];exact hrdV) (by rw [hrd];exact om111 hrdl) fun S2 σ3 hab2 hrl2 hrd2 hpo2 hnf2 st=>?_)⟩) (k137_get _ _) (k137_ready _) (k99_ty _) (k99_kp _)
 rw [hrd] at hab2 hpo2 ⊢
 rw [hab] at hab2
 obtain ⟨σ4,rfl,ok,st⟩:=StepR.back sa.g ok st
 have htl4:=st.off _ _ htl hatl
 have hatl4:=st.apart htl hatl
 have sa4:=sa.step st
 have gb4:=gb.step st
 clear gf gfx
 refine t_st (Nx.next (T_cons (T_augName (t_lload rfl (t_callB rfl (by rfl) (by decide) (kept_builtin _) (t_a1 (t_loc rfl (O_lenT ⟨_,rfl,rfl⟩ (by simp;exact om137 hpo hnf hrdl hpo2 hnf2) (O_iadd (t_st (Nx.next ?_)))))))))))
 have ehl:((Lh.length:Nat):Int)+(((rd.map PyData.int).map SV.d).length:Nat)=(((Lh++rd).length:Nat):Int):=by simp
 rw [ehl]
 refine t_fit (frL20t rs hd td sx rv b tl (((Lh++rd).length:Nat):Int) i rd) ⟨rfl,rfl,rfl,rfl,rfl,rfl,rfl,rfl,rfl,rfl,trivial⟩ ?_
 generalize hhn:(((Lh++rd).length:Nat):Int)=hn
 have okT:∀ D,FrOk (upd σ4 tl (some (.dictI (dueKV D)))) L (csLaw L):=fun D=>ok.set _ htl4
 have hhd4:∀ D,upd σ4 tl (some (.dictI (dueKV D))) hd=some (.ro (.dictI ((hKV H).map fun p=>(p.1,SV.d (pL p.2))))):=fun D=>by
  rw [upd_ne _ _ (fun q=>by have:=sa4.hhd;rw [q,htl4] at this;cases this)];exact sa4.hhd
 refine T_cons (t_for (t_loc rfl ⟨_,fun j σ'=>σ'=fr (upd σ4 tl (some (.dictI (dueKV (toldL ff (Lh++rd.take j)))))) L (csLaw L) (mkm (frL20t rs hd td sx rv b tl hn i rd)),it_tup R ⟨_,rfl,rfl⟩ ⟨_,_,rfl⟩,?_,?_,?_⟩))
 ·show fr σ4 L (csLaw L) _=fr (upd σ4 tl (some (.dictI (dueKV (toldL ff (Lh++rd.take 0)))))) L (csLaw L) _
  rw [List.take_zero,List.append_nil,upd_id htl4]
 ·rintro j y σ' hy rfl
  rw [List.getElem?_map,List.getElem?_map] at hy
  obtain ⟨z,hz,rfl⟩:=Option.map_eq_some_iff.mp hy
  obtain ⟨x,hx,rfl⟩:=Option.map_eq_some_iff.mp hz
  have hxr:=List.mem_of_getElem? hx
  obtain ⟨hxV,hd1,hd0,hxL,hxP⟩:=C.at rnd hxr
  have hxS:=hVs x hxV
  have hch:=C.chain rnd hxr
  have htk:rd.take (j+1)=rd.take j++[x]:=by rw [List.take_add_one,hx];rfl
  have hxn:x∉Lh++rd.take j:=fun z=>by
   rcases List.mem_append.mp z with z | z
   ·exact hxL z
   ·obtain ⟨l,hl⟩:=List.mem_iff_getElem?.mp z
    rw [List.getElem?_take] at hl
    split at hl
    ·rename_i hlt
     obtain ⟨a1,a2⟩:=List.getElem?_eq_some_iff.mp hl
     obtain ⟨b1,b2⟩:=List.getElem?_eq_some_iff.mp hx
     exact List.pairwise_iff_getElem.mp rnd.ki.nd l j a1 b1 hlt (a2.trans b2.symm)
    ·cases hl
  have hnextT:aset (toldL ff (Lh++rd.take j)) x ((i:Int),Sx ff x)=toldL ff (Lh++rd.take (j+1)):=by
   rw [←hch,toldL_snoc hxn,htk,List.append_assoc]
  have htoldP:∀ h∈H x,sget (dueKV (toldL ff (Lh++rd.take j))) h=some (dvS (chainN 5 ff h,Sx ff h)):=fun h hh=>by
   have e:=sget_int dvS (toldL ff (Lh++rd.take j)) h
   unfold intKV at e
   unfold dueKV
   rw [e,toldL_get,if_pos (List.mem_append_left _ (hxP h hh))];rfl
  have htlen:(dueKV (toldL ff (Lh++rd.take j))).length≤1000:=by
   unfold dueKV toldL
   simp only [List.length_map,List.length_append,List.length_take];exact om281 hpo hnf hrdl hLhl hpo2 hnf2 ehl hhn
  generalize hTj:toldL ff (Lh++rd.take j)=Tj at hnextT htoldP htlen
  have ok:=okT Tj
  have hhd:=hhd4 Tj
  have htlj:upd σ4 tl (some (.dictI (dueKV Tj))) tl=some (.dictI (dueKV Tj)):=upd_self ..
  have hst0:∀ y∈(if x < 256 then [x] else []),y∈Sx ff x:=fun y hy=>by
   unfold Sx
   split at hy
   ·rename_i q;rw [if_pos q];exact hy
   ·cases hy
  refine t_asN (t_fit (frL20n rs hd td sx rv b tl hn i rd x) ⟨rfl,rfl,rfl,rfl,rfl,rfl,rfl,rfl,rfl,rfl,rfl,trivial⟩ (opF fun P2 i2=>?_))
  refine T_consP (Sh (upd σ4 tl (some (.dictI (dueKV Tj)))) L (frL20s rs hd td sx rv b tl hn i rd x (if x < 256 then [x] else []))) ?_ ?_
  ·refine opP fun P3 i3=>t_as (T_ifexp (t_isVal (t_callG (v:=.ref 151) rfl rfl (t_a1 (t_loc rfl (W_term (n:=n+5) R (truth_bool ⟨fun hb=>?_,fun hb=>?_⟩)))))))
   ·have q:x < 256:=by simpa using hb
    rw [if_pos q] at i3
    exact T_listF (T_spl_cons (t_loc rfl (T_spl_nil ⟨[.int x],rfl,by simp,t_st (NxP.next (i3 _ ⟨_,⟨rfl,rfl,rfl,rfl,rfl,rfl,rfl,rfl,rfl,rfl,rfl,rfl,trivial⟩,rfl⟩))⟩)) rfl)
   ·have q:¬x < 256:=by simpa using hb
    rw [if_neg q] at i3
    exact T_listF (T_spl_nil ⟨[],rfl,by simp,t_st (NxP.next (i3 _ ⟨_,⟨rfl,rfl,rfl,rfl,rfl,rfl,rfl,rfl,rfl,rfl,rfl,rfl,trivial⟩,rfl⟩))⟩)
  rintro _ ⟨m1,fit1,rfl⟩
  refine t_fit _ fit1 ?_
  clear fit1 m1
  refine T_consP (fun σ'=>∃ xs:List Int,(∀ y,y∈xs↔y∈Sx ff x)∧xs.length≤900∧Sh (upd σ4 tl (some (.dictI (dueKV Tj)))) L (frL20s rs hd td sx rv b tl hn i rd x xs) σ') ?_ ?_
  ·refine opP fun P3 i3=>T_if (t_isVal (t_callG (v:=.ref 158) rfl rfl (t_a1 (t_loc rfl (W_nonterm (n:=n+5) R (truth_bool ⟨fun hb=>?_,fun hb=>?_⟩))))))
   ·have q:256≤x:=by simpa using hb
    have q':¬x < 256:=by exact om25 q
    rw [if_neg q']
    have hx4:x∈four:=isNm_four (hxS.resolve_right fun z=>by have:=z.2;exact om23 q this)
    have hHx:=hHl x
    have hfl:((H x).flatMap (Sx ff)).length≤54:=Nat.le_trans (flat_len (Sx_len inv g.ops3) (H x)) (om98 hHx)
    have htold:=fr_some (m:=mkm (frL20s rs hd td sx rv b tl hn i rd x [])) ok htlj
    have hcell:=cell_in (x:=nTold) (m:=mkm (frL20s rs hd td sx rv b tl hn i rd x [])) ok rfl
    refine T_cons (t_as (T_bin (t_loc rfl (T_comp2 (t_sub slot_dict_getitem.lookup (t_cell rfl ok (t_loc rfl ⟨typeD (DictR.I (.inr (fr_some ok hhd))),G_dict (DictR.I (.inr (fr_some ok hhd))) KeyR.int (sget_hk hx4) ⟨_,it_ints R ⟨_,_,rfl⟩,fun Cc D hC hD hDC=>?_⟩⟩)))))))
    generalize hσB:fr (upd σ4 tl (some (.dictI (dueKV Tj)))) L (csLaw L) (mkm (frL20s rs hd td sx rv b tl hn i rd x []))=σB at htold hcell hC hD
    have hCD:∀ w,upd σB D (some w) Cc=none:=fun w=>by rw [upd_ne _ _ (Ne.symm hDC)];exact hC
    have lift:∀ {a:Addr} {o:SObj},σB a=some o→∀ w m',fr (upd σB D (some w)) Cc [] m' a=some o:=fun {a o} e w m'=>in_fr (hCD w) (by rw [upd_ne _ _ (fun q=>by rw [q,hD] at e;cases e)];exact e)
    refine ⟨fun k σ'=>∃ m,σ'=fr (upd σB D (some (.list (intsL (((H x).take k).flatMap (Sx ff)))))) Cc [] m,⟨_,rfl⟩,?_,?_⟩
    ·rintro k y σ' hy ⟨m2,rfl⟩
     rw [List.getElem?_map] at hy
     obtain ⟨h,hh,rfl⟩:=Option.map_eq_some_iff.mp hy
     have hhm:=List.mem_of_getElem? hh
     have hgt:=htoldP h hhm
     refine t_asN (t_isCmp (t_loc rfl (t_ca (lift hcell _ _) (D_in (DictR.I (.inl (lift htold _ _))) KeyR.int (truth_bool ⟨fun hb=>⟨nofun,fun _=>?_⟩,fun hb=>?_⟩)))))
     ·refine t_sub PySem.F.slot_tuple_getitem.lookup (t_sub slot_dict_getitem.lookup (t_ca (lift hcell _ _) (t_loc rfl ⟨typeD (DictR.I (.inl (lift htold _ _))),G_dict (DictR.I (.inl (lift htold _ _))) KeyR.int hgt (T_int ⟨typeT ⟨_,rfl,rfl⟩,G_tup (j:=1) ⟨_,rfl,rfl⟩ (by decide) (by decide) rfl rfl ?_⟩)⟩)))
      refine ⟨_,fun l σ'=>∃ m,σ'=fr (upd σB D (some (.list (intsL (((H x).take k).flatMap (Sx ff)++(Sx ff h).take l))))) Cc [] m,it_ints R ⟨_,_,rfl⟩,⟨_,by rw [List.take_zero,List.append_nil]⟩,?_,?_⟩
      ·rintro l y σ' hy ⟨m3,rfl⟩
       rw [List.getElem?_map] at hy
       obtain ⟨z,hz,rfl⟩:=Option.map_eq_some_iff.mp hy
       refine t_asN ⟨nofun,fun _=>t_loc rfl ⟨intsL (((H x).take k).flatMap (Sx ff)++(Sx ff h).take l),in_fr (hCD _) (upd_self ..),?_,?_⟩⟩
       ·have h1:=flat_len (Sx_len inv g.ops3) ((H x).take k)
        have h2:=Sx_len inv g.ops3 h
        simp only [intsL,List.length_map,List.length_append,List.length_take] at h1 ⊢
        exact om322 hHx h2 h1
       ·rw [upd_fr_some (frC_ok (hCD _)) _ (upd_self ..),upd_upd]
        have e:(Sx ff h).take (l+1)=(Sx ff h).take l++[z]:=by rw [List.take_add_one,hz];rfl
        exact ⟨setm m3 (Str.ofString "x") (.d (.int z)),by rw [e,←List.append_assoc];simp only [intsL,List.map_append,List.map_cons,List.map_nil]⟩
      ·rintro σ' ⟨m3,rfl⟩
       refine ⟨m3,?_⟩
       rw [List.length_map,List.take_length]
       have e:(H x).take (k+1)=(H x).take k++[h]:=by rw [List.take_add_one,hh];rfl
       rw [e,List.flatMap_append]
       simp
     ·rw [hgt] at hb;cases hb
    ·rintro σ' ⟨m2,rfl⟩
     rw [List.length_map,List.take_length]
     refine ⟨_,m2,rfl,hCD _,?_⟩
     refine O_concatF (ds:=[]) (es:=((H x).flatMap (Sx ff)).map PyData.int) .d (AsList.ref (by rw [upd_self];simp)) (by rw [List.length_map,List.length_nil];exact om119 hfl) ?_
     subst hσB
     rw [upd_fr_none _ hD]
     have hDσ:=(fr_none hD).2.2
     have okD:=FrOk.new ok (some (.list (intsL ((H x).flatMap (Sx ff))))) hD
     refine t_st (Nx.next (t_drop okD (upd_self ..) rfl fun ok2=>?_))
     rw [upd_upd,upd_id hDσ]
     refine T_nil (NxP.next (i3 _ ⟨(H x).flatMap (Sx ff),fun y=>?_,om120 hfl,_,⟨rfl,rfl,rfl,rfl,rfl,rfl,rfl,rfl,rfl,rfl,rfl,rfl,trivial⟩,rfl⟩))
     rw [C.clo.flat y]
     unfold Sx
     rw [if_neg q',sortI_mem]
   ·have q:x < 256:=by have:¬256≤x:=(by simpa using hb);exact om41 this
    rw [if_pos q]
    exact T_nil (NxP.next (i3 _ ⟨[x],fun y=>by unfold Sx;rw [if_pos q],by simp,_,⟨rfl,rfl,rfl,rfl,rfl,rfl,rfl,rfl,rfl,rfl,rfl,rfl,trivial⟩,rfl⟩))
  rintro _ ⟨xs,hxs,hxl,m1,fit1,rfl⟩
  refine t_fit _ fit1 ?_
  clear fit1 m1
  have hSop:∀ y∈Sx ff x,7≤y∧y < 55:=fun y hy=>by
   unfold Sx at hy
   split at hy
   ·rename_i q
    rw [List.mem_singleton] at hy;subst hy
    exact hxS.resolve_left fun z=>by have:=z.1;exact om37 q this
   ·exact g.op y (starts_op inv (sortI_mem.mp hy))
  have hSnd:(Sx ff x).Nodup:=by
   unfold Sx
   split
   ·simp
   ·exact (sortI_perm _).nodup_iff.mpr (starts_nd inv x)
  have hSsort:(Sx ff x).Pairwise (·≤·):=by
   unfold Sx
   split
   ·simp
   ·exact sortI_sorted _
  refine T_cons (T_assignSub (T_tupF (T_spl_cons (t_loc rfl (T_spl_cons (t_callB rfl (by rfl) (by decide) (kept_builtin _) (t_a1 (t_callB rfl (by rfl) (by decide) (kept_type _) (t_a1 (t_loc rfl (C_setX (ns:=xs) R asl_ints (fun y hy=>hSop y ((hxs y).mp hy)) (fun ks hks hsub=>?_) fun ob hob=>O_sortedX R hob fun ns' h1 h2 h3=>?_)))))) rfl)) rfl)) rfl)
  ·exact Nat.le_trans (nodup_len hks fun y hy=>(hxs y).mp (hsub y hy)) (Sx_len inv g.ops3 x)
  ·have hns:ns'=Sx ff x:=sorted_uniq ((List.perm_ext_iff_of_nodup h1 hSnd).mpr fun y=>(h3 y).trans (hxs y)) h2 hSsort
   subst hns
   refine T_spl_nil ⟨[.int i,.list ((Sx ff x).map PyData.int)],rfl,by simp,t_cell rfl ok (t_loc rfl (s_dictI ok htlj htlen fun ok'=>Nx.next ?_))⟩
   refine t_fit (frL20t rs hd td sx rv b tl hn i rd) ⟨rfl,rfl,rfl,rfl,rfl,rfl,rfl,rfl,rfl,rfl,trivial⟩ (T_nil (i2 _ ?_))
   rw [upd_upd,show (SV.d (.tuple [.int (i:Int),.list ((Sx ff x).map PyData.int)]))=dvS ((i:Int),Sx ff x) from rfl,sset_due,hnextT]
 ·rintro σ' rfl
  rw [List.length_map,List.length_map,List.take_length]
  have ok:=okT (toldL ff (Lh++rd))
  have gS:GphR (upd σ4 tl (some (.dictI (dueKV (toldL ff (Lh++rd)))))) S2:=sa4.g.off htl4 hatl4 (by intro _ h;cases h) (by intro _ h;cases h) rfl
  have saS:SrtA (upd σ4 tl (some (.dictI (dueKV (toldL ff (Lh++rd)))))) S2 sx hd td T H:=⟨gS,sa4.x,by rw [upd_ne _ _ (Ne.symm hne)];exact sa4.htd,sa4.atd,hhd4 _,sa4.ahd⟩
  have hab3:(absG S2,S2.rd)=(gOut (mkG V (npI H Lh Lh) su) rd,[]):=by rw [hab2,hrd2]
  have sb:∀ r∈S2.ns,∀ s∈r.su,s∈S2.ns.map (·.k):=fun r hr s hs=>by
   rw [gb4.sus r hr] at hs
   rw [gb4.keys]
   exact C.sg.suV (by rw [←gb4.keys];exact List.mem_map.mpr ⟨r,hr,rfl⟩) hs
  have hrd7:rd.length≤7:=Nat.le_trans (nodup_len rnd.ki.nd hrdV) hVl
  obtain ⟨rd5,e5,rnd5⟩:=C.step rnd
  have gf5:=gS.fr (m:=mkm (frL20t rs hd td sx rv b tl hn i rd)) ok
  have gfx5:=gf5.hx
  rw [sa4.x] at gfx5
  refine Nx.next (T_cons (t_ex (t_instS (C:=137) (f:=120) (t_loc rfl ⟨sx,rfl,isInst2_obj (.inl gfx5) (.inl gf5.hdx) rfl,fun q=>TA_star (t_loc rfl ⟨intsL rd,.inr ⟨rd.map PyData.int,rfl,by simp⟩,by rw [List.length_map];exact om139 hpo hnf hrdl hpo2 hnf2 ehl hhn hrd7,?_⟩)⟩) (k137_get _ _) (k137_dict _) (k137_done _) (k120_fn _) (k120_in _) (k120_get _) (k120_tk _) (by decide))))
  refine CodeT.self sa4.x <| W_done (n:=n+4) (b:=40) R gf5 (hrl2.trans hrl) sb (fun r hr=>by rw [gb4.sus r hr];exact gb4.sul _ (by rw [←gb4.keys];exact List.mem_map.mpr ⟨r,hr,rfl⟩)) (by rw [hrd2];simp;exact om138 hpo hnf hrdl hpo2 hnf2 ehl hhn hrd7) (om140 hpo hnf hrdl hpo2 hnf2 ehl hhn hrd7) (fun j k hjk=>?_) fun S5 σ5 hab6 hrl6 hrd6 hpo6 hnf6 st5=>?_
  ·rw [hab3,gb4.keys]
   exact C.handed rnd hjk
  ·obtain ⟨σ6,rfl,ok,st6⟩:=StepR.back gS ok st5
   rw [hab3,e5] at hab6 hrd6
   refine Nx.next (t_fit (frL20 rs hd td sx rv b tl (((Lh++rd).length:Nat):Int)) ⟨rfl,rfl,rfl,rfl,rfl,rfl,rfl,?_,trivial⟩ (T_nil ?_))
   ·rw [hhn];rfl
   ·refine i1 _ ⟨σ6,S5,Lh++rd,rd5,rfl,ok,saS.step st6,hrl6.trans (hrl2.trans hrl),hrd6,?_,?_,hab6,rnd5,st6.off _ _ (upd_self ..) hatl4,st6.apart (upd_self ..) hatl4,hne⟩
    ·rw [hpo6,hpo2,hpo];simp
    ·rw [hnf6,hnf2,hnf];simp
end
end Mine
end
section
set_option maxHeartbeats 1000000
namespace Mine
noncomputable abbrev nEmp:=Str.ofString "empties"
noncomputable def frL21 (rs:List Rule) (hd td sx:Addr) (rv:SV) (b:Bool) (tl:Addr) (k:Int) (e:Addr):List (Str×SV):=[(nRules,.d (.list (rs.map ruleD))),(nHeads,.ref hd),(nTurns,.ref td),(nSorter,.ref sx),(nRing,rv),(nHeld,.d (.bool b)),(nTold,.ref tl),(nHanded,.d (.int k)),(nEmp,.ref e)]
noncomputable def frL23 (hd sx:Addr) (rv:SV) (b:Bool) (tl:Addr) (k:Int) (ff:FMap) (dd:Addr):List (Str×SV):=[(nHeads,.ref hd),(nSorter,.ref sx),(nRing,rv),(nHeld,.d (.bool b)),(nTold,.ref tl),(nHanded,.d (.int k)),(Str.ofString "rings",.d (bodyD (ringsOf ff))),(Str.ofString "due",.ref dd)]
structure FinA (σ1:Sig) (S:SS) (sx a hd td tl:Addr) (T:List (Int×Int)) (H:FMap) (D:List (Int×DV)):Prop where
 sa:SrtA σ1 S sx hd td T H
 rl:S.rl=some a
 rd:S.rd=[]
 po:S.po=S.nf
 htl:σ1 tl=some (.dictI (dueKV D))
theorem FinA.keep {σ1 σ2:Sig} {S:SS} {sx a hd td tl:Addr} {T:List (Int×Int)} {H:FMap} {D:List (Int×DV)} (h:FinA σ1 S sx a hd td tl T H D) (k:∀ a o,σ1 a=some o→σ2 a=some o):FinA σ2 S sx a hd td tl T H D :=
 ⟨h.sa.keep k,h.rl,h.rd,h.po,k _ _ h.htl⟩
theorem upd_keep {σ:Sig} {b:Addr} {o:Option SObj} (hb:σ b=none):∀ a o',σ a=some o'→upd σ b o a=some o':=fun a o' e=>by rw [upd_ne _ _ (fun q=>by rw [q,hb] at e;cases e)];exact e
section
variable {G:GC} {A:Around} {σ:Sig} {n:Nat} {L f:Addr} {cd:Value}
theorem seg20 {ops:List Int} {rs:List Rule} (R:Rm (n+6) A) (g:Gram ops rs) {sx a hd td tl:Addr} {T:List (Int×Int)} {H ff:FMap} {V:List Int} {su:Int→List Int} (C:Sec H ff V su (graphOf (hKV H) [])) (inv:FrInv ops ff) (hbd:bdOf (hKV H)≤40) (hHl:∀ k,(H k).length≤18) (hVs:∀ k∈V,IsSym k) (hVl:V.length≤7) (hHs:∀ n,∀ x∈H n,IsSym x) {rv:SV} {b:Bool}
  (B:RdS σ L rs rv b sx a hd td tl T H ff V su 0) :
  TF G.c A (execs [lawS G.w.params 20] (lawEnv (lawScope G.w.params) L f cd)) σ (NxP fun σ'=>∃ σ1 S D,σ'=fr σ1 L (csLaw L) (mkm (frL20 rs hd td sx rv b tl (D.length:Nat)))∧FrOk σ1 L (csLaw L)∧FinA σ1 S sx a hd td tl T H D∧SameD D (dueOf 5 ff)):=by
 refine T_cons ?_
 obtain ⟨tg,it,bd,p,e,_⟩:=turn20 (L:=L) (f:=f) (cd:=cd) R g C inv hbd hHl hVs hVl (i:=0) rfl B (Q:=fun _ _=>True)
 have hst:∀ {i:Nat} {y:SV} {σ:Sig} {Q:SFlow→Sig→Prop},(rngL 0 1 6)[i]?=some y→RdS σ L rs rv b sx a hd td tl T H ff V su i→T1 G.c RU A (assign tg (lawEnv (lawScope G.w.params) L f cd)) y σ (fun _ σ2=>TF G.c A (execs bd (lawEnv (lawScope G.w.params) L f cd)) σ2 (ForEnd (RdS · L rs rv b sx a hd td tl T H ff V su (i+1)) Q)):=fun {i y σ Q} hy B=>by
  obtain ⟨tg',it',bd',p',e',h⟩:=turn20 (L:=L) (f:=f) (cd:=cd) R g C inv hbd hHl hVs hVl hy B (Q:=Q)
  rw [e] at e'
  injection e' with h1 h2 h3 h4 h5
  subst h1;subst h3
  exact h
 have e2:lawS G.w.params 20=.For _ _ _ _ _:=rfl
 rw [e] at e2
 injection e2 with h1 h2 h3 h4 h5
 have htg:NameT tg:=by rw [h1];exact ⟨_,_,rfl⟩
 rw [e]
 subst h2
 clear h1 h3 h4 h5 e
 obtain ⟨σ1,S,Lh,rd,rfl,rest⟩:=id B
 refine t_for (t_callB rfl (by rfl) (by decide) (kept_type _) (t_a1 (T_int (C_range1 fun t u v=>⟨rngL 0 1 6,fun i σ'=>RdS σ' L rs rv b sx a hd td tl T H ff V su i,it_range (m:=6) R (by decide) (by decide) htg,B,fun i y σ' hy B=>hst hy B,fun σ' B=>?_⟩))))
 obtain ⟨σ2,S2,L2,rd2,rfl,ok,sa,hrl,hrd,hpo,hnf,hab,rnd,htl,hatl,hne⟩:=B
 have hsame:=C.told rnd hHs
 have hrd0:=C.last rnd
 refine Nx.next (T_nil (NxP.next ⟨σ2,S2,toldL ff L2,?_,ok,⟨sa,hrl,hrd.trans hrd0,hpo.trans hnf.symm,htl⟩,hsame⟩))
 unfold toldL
 rw [List.length_map]
theorem seg21 {ops:List Int} {rs:List Rule} (R:Rm (n+6) A) (g:Gram ops rs) {sx a hd td tl:Addr} {T:List (Int×Int)} {H:FMap} {rv:SV} {b:Bool} {D:List (Int×DV)} {σ1:Sig} {S:SS} (ok:FrOk σ1 L (csLaw L)) (fa:FinA σ1 S sx a hd td tl T H D) :
  TF G.c A (execs [lawS G.w.params 21] (lawEnv (lawScope G.w.params) L f cd)) (fr σ1 L (csLaw L) (mkm (frL20 rs hd td sx rv b tl (D.length:Nat)))) (NxP fun σ'=>∃ σ2 e,σ'=fr σ2 L (csLaw L) (mkm (frL21 rs hd td sx rv b tl (D.length:Nat) e))∧FrOk σ2 L (csLaw L)∧FinA σ2 S sx a hd td tl T H D∧σ2 e=some (.ro (.dictS (symKV svI (emAt rs 4))))):=by
 refine eqv (Φ:=fun sc=>TF G.c A (execs _ (lawEnv sc L f cd)) _ _) (a':=⟨_,_,_,_,_⟩) rfl ?_
 refine T_cons (eqv (Φ:=fun st=>TF G.c A (exec st _) _ _) (a':=.Assign _ _ _) rfl ?_)
 refine t_as (t_callG (v:=.ref 189) rfl rfl (t_a1 (t_loc rfl (W_empties (n:=n+4) R g fun e he=>?_))))
 rw [upd_fr_none _ he]
 have heσ:=(fr_none he).2.2
 have ok2:=FrOk.new ok (some (.dictS (symKV svI (emAt rs 4)))) he
 refine t_stC ok2 (Nx.next (t_fit (frL21 rs hd td sx rv b tl (D.length:Nat) e) ⟨rfl,rfl,rfl,rfl,rfl,rfl,rfl,rfl,rfl,trivial⟩ (t_lock1 ok2 (upd_self ..) rfl fun ok3=>?_)))
 rw [upd_upd] at ok3 ⊢
 exact T_nil (NxP.next ⟨_,e,rfl,ok3,fa.keep (upd_keep heσ),upd_self ..⟩)
end
end Mine
end
section
set_option maxHeartbeats 1000000
namespace Mine
theorem it_keysS {c:Cfg} {A:Around} {σ:Sig} {n:Nat} {d:Addr} {kvs:List (Str×SV)} {target:Expr} (R:Rm n A) (dr:DictR c (strKind c.prog c.w) σ d kvs) (hq:Quiet (σ d)) (ht:NameT target):ItOf c A target (.ref d) σ (kvs.map fun p=>SV.d (.str p.1)):=fun F s E v Q H r h =>
 it_keys R (fun k=>SV.d (.str k)) (fun k v F h=>by
  obtain ⟨t,rfl⟩:=Value.isStrOf_shape h
  exact rel_str _ t) (dr F s H).2 (fun F s H=>(dr F s H).1) hq ht F s E v Q H r h
theorem aset_snoc {α:Type} {E:List (Int×α)} {k:Int} {v:α} (h:k∉E.map (·.1)):aset E k v=E++[(k,v)]:=by
 unfold aset
 rw [if_neg]
 rw [Bool.not_eq_true,List.any_eq_false]
 intro p hp
 simp
 exact fun q=>h (List.mem_map.mpr ⟨p,hp,q⟩)
section
variable {G:GC} {A:Around} {σ:Sig} {n:Nat} {L f:Addr} {cd:Value}
theorem seg22 {ops:List Int} {rs:List Rule} (R:Rm (n+6) A) (g:Gram ops rs) {sx a hd td tl e:Addr} {T:List (Int×Int)} {H:FMap} {rv:SV} {b:Bool} {D:List (Int×DV)} {σ1:Sig} {S:SS} (ok:FrOk σ1 L (csLaw L)) (fa:FinA σ1 S sx a hd td tl T H D)
  (he:σ1 e=some (.ro (.dictS (symKV svI (emAt rs 4))))) (hT:SameD T (emAt rs 4)) {Q:SFlow→Sig→Prop} :
  TF G.c A (execs [lawS G.w.params 22] (lawEnv (lawScope G.w.params) L f cd)) (fr σ1 L (csLaw L) (mkm (frL21 rs hd td sx rv b tl (D.length:Nat) e))) (NxP fun σ'=>σ'=fr σ1 L (csLaw L) (mkm (frL21 rs hd td sx rv b tl (D.length:Nat) e))):=by
 refine eqv (Φ:=fun sc=>TF G.c A (execs _ (lawEnv sc L f cd)) _ _) (a':=⟨_,_,_,_,_⟩) rfl ?_
 refine T_cons (eqv (Φ:=fun st=>TF G.c A (exec st _) _ _) (a':=.If _ _ _ _) rfl ?_)
 have heR:=fr_some (m:=mkm (frL21 rs hd td sx rv b tl (D.length:Nat) e)) ok he
 have hcell:=cell_in (x:=nEmp) (m:=mkm (frL21 rs hd td sx rv b tl (D.length:Nat) e)) ok rfl
 have htd:=fr_some (m:=mkm (frL21 rs hd td sx rv b tl (D.length:Nat) e)) ok fa.sa.htd
 have hks:KeysS (emAt rs 4):=fun p hp=>.inl (four_isNm (emAt_four g 4 p.1 (List.mem_map.mpr ⟨p,hp,rfl⟩)))
 have hnd:=emAt_nodup (rs:=rs) 4
 have hl:(emAt rs 4).length≤4:=by
  have:((emAt rs 4).map (·.1)).length≤four.length:=nodup_len hnd (emAt_four g 4)
  simpa using this
 generalize emAt rs 4=E at heR hks hnd hl hT he
 refine T_if (t_isCmp (t_loc rfl (T_dcomp (t_cell rfl ok ⟨_,it_keysS R (DictR.S (.inr heR)) (by rw [heR];rfl) ⟨_,_,rfl⟩,fun Cc Dd hC hD hDC=>?_⟩))))
 have hok:=ok
 generalize hσB:fr σ1 L (csLaw L) (mkm (frL21 rs hd td sx rv b tl (D.length:Nat) e))=σB at heR hcell hC hD htd
 have hCD:∀ w,upd σB Dd (some w) Cc=none:=fun w=>by rw [upd_ne _ _ (Ne.symm hDC)];exact hC
 have lift:∀ {a:Addr} {o:SObj},σB a=some o→∀ w m',fr (upd σB Dd (some w)) Cc [] m' a=some o:=fun {a o} e w m'=>in_fr (hCD w) (by rw [upd_ne _ _ (fun q=>by rw [q,hD] at e;cases e)];exact e)
 refine ⟨fun k σ'=>∃ m,σ'=fr (upd σB Dd (some (.dictI (intKV svI (E.take k))))) Cc [] m,⟨_,rfl⟩,?_,?_⟩
 ·rintro k y σ' hy ⟨m2,rfl⟩
  unfold symKV at hy
  rw [List.getElem?_map,List.getElem?_map] at hy
  obtain ⟨q,hq,rfl⟩:=Option.map_eq_some_iff.mp hy
  obtain ⟨p,hp,rfl⟩:=Option.map_eq_some_iff.mp hq
  have hpm:=List.mem_of_getElem? hp
  have hps:=hks p hpm
  have hk:k < E.length:=(List.getElem?_eq_some_iff.mp hp).1
  have hgt:sget (symKV svI E) (symS p.1)=some (svI p.2):=by
   rw [sget_sym svI hks hps,aget_mem hnd hpm];rfl
  refine t_asN ⟨nofun,fun _=>t_callG (v:=.ref 184) rfl rfl (t_a1 (t_loc rfl (W_number (n:=n+4) R hps ?_)))⟩
  refine t_sub slot_dict_getitem.lookup (t_ca (lift hcell _ _) (t_loc rfl ⟨typeD (DictR.S (.inr (lift heR _ _))),G_dict (DictR.S (.inr (lift heR _ _))) KeyR.str hgt ⟨p.1,intKV svI (E.take k),rfl,in_fr (hCD _) (upd_self ..),?_,?_⟩⟩))
  ·unfold intKV;rw [List.length_map,List.length_take];exact om223 hl hk
  ·rw [upd_fr_some (frC_ok (hCD _)) _ (upd_self ..),upd_upd]
   have e1:E.take (k+1)=E.take k++[p]:=by rw [List.take_add_one,hp];rfl
   have hn:p.1∉(E.take k).map (·.1):=fun z=>by
    obtain ⟨q,hq,e2⟩:=List.mem_map.mp z
    obtain ⟨l,hl⟩:=List.mem_iff_getElem?.mp hq
    rw [List.getElem?_take] at hl
    split at hl
    ·rename_i hlt
     obtain ⟨a1,a2⟩:=List.getElem?_eq_some_iff.mp hl
     obtain ⟨b1,b2⟩:=List.getElem?_eq_some_iff.mp hp
     have:=List.pairwise_iff_getElem.mp hnd l k (by simpa using a1) (by simpa using b1) hlt
     refine this ?_
     rw [List.getElem_map,List.getElem_map,a2,b2];exact e2
    ·cases hl
   exact ⟨_,by rw [sset_int svI,aset_snoc hn,e1]⟩
 ·rintro σ' ⟨m2,rfl⟩
  unfold symKV
  rw [List.length_map,List.length_map,List.take_length]
  refine ⟨_,m2,rfl,hCD _,?_⟩
  have hsd:SameD (T.map fun p=>(p.1,PyData.int p.2)) (E.map fun p=>(p.1,PyData.int p.2)):=by
   refine ⟨by rw [List.length_map,List.length_map];exact hT.len,fun p hp=>?_⟩
   obtain ⟨q,hq,rfl⟩:=List.mem_map.mp hp
   have:=hT.get q hq
   unfold aget at this ⊢
   obtain ⟨z,h1,h2⟩:=Option.map_eq_some_iff.mp this
   rw [List.find?_map,Option.map_map]
   rw [show E.find? ((fun p:Int×PyData=>decide (p.1=q.1)) ∘ fun p=>(p.1,PyData.int p.2))=some z from h1]
   simp [h2]
  have eT:∀ T:List (Int×Int),intKV svI T=(T.map fun p=>(p.1,PyData.int p.2)).map fun p=>(p.1,SV.d p.2):=fun T=>by unfold intKV;rw [List.map_map];rfl
  refine O_neDict (k1:=T.map fun p=>(p.1,PyData.int p.2)) (k2:=E.map fun p=>(p.1,PyData.int p.2)) R (DictR.I (.inl (by rw [upd_ne _ _ (fun q=>by rw [q,hD] at htd;cases htd),←eT];exact htd))) (DictR.I (.inl (by rw [upd_self,←eT]))) hsd (fun p hp=>?_) (truth_bool ⟨nofun,fun _=>?_⟩)
  ·obtain ⟨q,_,rfl⟩:=List.mem_map.mp hp;rfl
  ·subst hσB
   rw [upd_fr_none _ hD]
   have hDσ:=(fr_none hD).2.2
   refine t_drop (FrOk.new hok _ hD) (upd_self ..) rfl fun ok2=>?_
   rw [upd_upd,upd_id hDσ]
   exact T_nil (Nx.next (T_nil (NxP.next rfl)))
end
end Mine
end
section
set_option maxHeartbeats 1000000
namespace Mine
theorem depth_ints:∀ xs:List Int,PyData.depthAll (xs.map PyData.int)=0
 | []=>by simp only [List.map_nil,PyData.depthAll]
 | x :: r=>by
  have:=depth_ints r
  simp only [List.map_cons,PyData.depthAll,PyData.depth,this];rfl
theorem lay_ints:∀ xs:List Int,PyData.canLayAll0 (xs.map PyData.int)=true
 | []=>by simp only [List.map_nil,PyData.canLayAll0]
 | x :: r=>by
  have:=lay_ints r
  simp only [List.map_cons,PyData.canLayAll0,PyData.canLay0,this,Bool.and_self]
theorem shaped_dv (a:Int) (xs:List Int):SeqAt.shaped (.tuple [.int a,.list (xs.map PyData.int)])=true:=by
 unfold SeqAt.shaped
 simp only [PyData.canLay0,PyData.canLayAll0,PyData.depth,PyData.depthAll,lay_ints,depth_ints]
 decide
theorem T_assT {c:Cfg} {A:Around} {σ:Sig} {env:Env} {elts:List Expr} {k:Nat} {p' pos:Pos} {e:Expr} {Q:SFlow→Sig→Prop} (h:TV c A (eval e env) σ (fun v σ1=>T1 c RU A (assign (.Tuple elts k p') env) v σ1 (fun _ σ2=>Q .next σ2)))
  (hs:swapsWithSole [.Tuple elts k p'] e pos.line env=pure false) (hw:swappedStores [.Tuple elts k p'] e env=pure none):TF c A (exec (.Assign [.Tuple elts k p'] e pos) env) σ Q:=.mk fun F s E H=>by
 refine Assign_Tuple (h.wp H fun v s1 F1 σ1 x r1 H1 X1 q1=>wpAny_mono (q1.run F1 s1 E v H1 r1) (fun _ s2 ⟨F2,σ2,_,_,H2,X2,q2⟩=>?_) fun _ _ e=>e) hs hw
 exact ⟨F2,σ2,.next,rfl,H2,X1.trans X2,q2⟩
section
variable {G:GC} {A:Around} {σ:Sig} {n:Nat} {L f:Addr} {cd:Value}
theorem seg23 {ops:List Int} {rs:List Rule} (R:Rm (n+9) A) (g:Gram ops rs) {sx a hd td tl e:Addr} {T:List (Int×Int)} {H ff:FMap} {rv:SV} {b:Bool} {D:List (Int×DV)} {σ1:Sig} {S:SS} (ok:FrOk σ1 L (csLaw L)) (fa:FinA σ1 S sx a hd td tl T H D)
  (he:σ1 e=some (.ro (.dictS (symKV svI (emAt rs 4))))) (hff:ff=frAt (fun s=>(aget (emAt rs 4) s).isSome) rs 4) (inv:FrInv ops ff) (hK:∀ k,IsNm k→goodB ff k=true→Deep ff 5 k) :
  TF G.c A (execs [lawS G.w.params 23] (lawEnv (lawScope G.w.params) L f cd)) (fr σ1 L (csLaw L) (mkm (frL21 rs hd td sx rv b tl (D.length:Nat) e))) (NxP fun σ'=>∃ σ2 dd,σ'=fr σ2 L (csLaw L) (mkm (frL23 hd sx rv b tl (D.length:Nat) ff dd))∧FrOk σ2 L (csLaw L)∧FinA σ2 S sx a hd td tl T H D∧σ2 dd=some (.dictI (dueKV (dueOf 5 ff)))):=by
 refine eqv (Φ:=fun sc=>TF G.c A (execs _ (lawEnv sc L f cd)) _ _) (a':=⟨_,_,_,_,_⟩) rfl ?_
 refine T_cons (eqv (Φ:=fun st=>TF G.c A (exec st _) _ _) (a':=.Assign _ _ _) rfl ?_)
 have hks:KeysS (emAt rs 4):=fun p hp=>.inl (four_isNm (emAt_four g 4 p.1 (List.mem_map.mpr ⟨p,hp,rfl⟩)))
 have heR:=fr_some (m:=mkm (frL21 rs hd td sx rv b tl (D.length:Nat) e)) ok he
 refine T_assT (t_callG (v:=.ref 206) rfl rfl (t_a1 (t_callG (v:=.ref 196) rfl rfl (t_a2 (t_loc rfl (t_cell rfl ok (W_fronts (n:=n+7) R g hks (.inr heR) fun d hd0=>?_))))))) rfl rfl
 rw [←hff]
 refine W_due (n:=n) (K:=5) (f:=ff) R g inv (upd_self ..) hK fun t dd ht hdd hne=>?_
 rw [upd_fr_none _ hd0] at ht hdd ⊢
 have ok1:=FrOk.new ok (some (.dictS (symKV (fun ys=>.d (bodyD ys)) ([256,257,258,259].map fun k=>(k,ff k))))) hd0
 rw [upd_fr_none _ hdd]
 have ok2:=FrOk.new ok1 (some (.dictI (dueKV (dueOf 5 ff)))) hdd
 have ht2:fr (upd (upd σ1 d (some (.dictS (symKV (fun ys=>.d (bodyD ys)) ([256,257,258,259].map fun k=>(k,ff k)))))) dd (some (.dictI (dueKV (dueOf 5 ff))))) L (csLaw L) (mkm (frL21 rs hd td sx rv b tl (D.length:Nat) e)) t=none:=by
  rw [←upd_fr_none _ hdd,upd_ne _ _ hne];exact ht
 rw [upd_fr_none _ ht2]
 have ok3:=FrOk.new ok2 (some (.tup [.d (bodyD (ringsOf ff)),.ref dd])) ht2
 have k1:=upd_keep (o:=some (.dictS (symKV (fun ys=>.d (bodyD ys)) ([256,257,258,259].map fun k=>(k,ff k))))) (fr_none hd0).2.2
 have k2:=upd_keep (o:=some (.dictI (dueKV (dueOf 5 ff)))) (fr_none hdd).2.2
 have k3:=upd_keep (o:=some (.tup [.d (bodyD (ringsOf ff)),.ref dd])) (fr_none ht2).2.2
 refine T_assTupR R (fr_some ok3 (upd_self ..)) (t_asN (t_asN ?_)) rfl rfl rfl
 refine Nx.next (t_fit (frL23 hd sx rv b tl (D.length:Nat) ff dd) ⟨rfl,rfl,rfl,rfl,rfl,rfl,rfl,rfl,trivial⟩ (T_nil (NxP.next ⟨_,dd,rfl,ok3,fa.keep fun a o e=>k3 a o (k2 a o (k1 a o e)),k3 _ _ (upd_self ..)⟩)))
theorem seg24 (R:Rm (n+9) A) {sx a hd td tl dd:Addr} {T:List (Int×Int)} {H ff:FMap} {rv:SV} {b:Bool} {D:List (Int×DV)} {σ1:Sig} {S:SS} (ok:FrOk σ1 L (csLaw L)) (fa:FinA σ1 S sx a hd td tl T H D)
  (hdd:σ1 dd=some (.dictI (dueKV (dueOf 5 ff)))) (hD:SameD D (dueOf 5 ff)) (hDl:D.length≤900) (hb:b=!(ringsOf ff).isEmpty) (hrS:∀ x∈ringsOf ff,IsSym x) :
  TF G.c A (execs [lawS G.w.params 24] (lawEnv (lawScope G.w.params) L f cd)) (fr σ1 L (csLaw L) (mkm (frL23 hd sx rv b tl (D.length:Nat) ff dd))) (NxP fun σ'=>σ'=fr σ1 L (csLaw L) (mkm (frL23 hd sx rv b tl (D.length:Nat) ff dd))):=by
 refine eqv (Φ:=fun sc=>TF G.c A (execs _ (lawEnv sc L f cd)) _ _) (a':=⟨_,_,_,_,_⟩) rfl ?_
 refine T_cons (eqv (Φ:=fun st=>TF G.c A (exec st _) _ _) (a':=.If _ _ _ _) rfl ?_)
 have htl:=fr_some (m:=mkm (frL23 hd sx rv b tl (D.length:Nat) ff dd)) ok fa.htl
 have hd2:=fr_some (m:=mkm (frL23 hd sx rv b tl (D.length:Nat) ff dd)) ok hdd
 have eD:∀ D:List (Int×DV),dueKV D=(D.map fun p=>(p.1,PyData.tuple [.int p.2.1,.list (p.2.2.map PyData.int)])).map fun p=>(p.1,SV.d p.2):=fun D=>by unfold dueKV;rw [List.map_map];rfl
 have hsd:SameD (D.map fun p=>(p.1,PyData.tuple [.int p.2.1,.list (p.2.2.map PyData.int)])) ((dueOf 5 ff).map fun p=>(p.1,PyData.tuple [.int p.2.1,.list (p.2.2.map PyData.int)])):=by
  refine ⟨by rw [List.length_map,List.length_map];exact hD.len,fun p hp=>?_⟩
  obtain ⟨q,hq,rfl⟩:=List.mem_map.mp hp
  have:=hD.get q hq
  unfold aget at this ⊢
  obtain ⟨z,h1,h2⟩:=Option.map_eq_some_iff.mp this
  rw [List.find?_map,Option.map_map]
  rw [show (dueOf 5 ff).find? ((fun p:Int×PyData=>decide (p.1=q.1)) ∘ fun p=>(p.1,PyData.tuple [.int p.2.1,.list (p.2.2.map PyData.int)]))=some z from h1]
  simp [h2]
 have gf:=fa.sa.g.fr (m:=mkm (frL23 hd sx rv b tl (D.length:Nat) ff dd)) ok
 have gfx:=gf.hx
 rw [fa.sa.x] at gfx
 refine T_if (T_isBool (T_or_cons (t_isCmp (t_cell rfl ok (t_loc rfl (O_neDict (k1:=D.map fun p=>(p.1,PyData.tuple [.int p.2.1,.list (p.2.2.map PyData.int)])) (k2:=(dueOf 5 ff).map fun p=>(p.1,PyData.tuple [.int p.2.1,.list (p.2.2.map PyData.int)])) R (DictR.I (.inl (by rw [←eD];exact htl))) (DictR.I (.inl (by rw [←eD];exact hd2))) hsd (fun p hp=>?_) (truth_bool ⟨nofun,fun _=>?_⟩)))))))
 ·obtain ⟨q,_,rfl⟩:=List.mem_map.mp hp
  exact shaped_dv _ _
 ·refine T_or_cons (t_isCmp (t_loc rfl (t_callB rfl (by rfl) (by decide) (kept_builtin _) (t_a1 (t_loc rfl (D_len (DictR.I (.inl hd2)) ?_ (O_neI (truth_bool ⟨fun hb=>?_,fun _=>?_⟩))))))))
  ·unfold dueKV;rw [List.length_map,←hD.len];exact om126 hDl
  ·exfalso
   unfold dueKV at hb
   rw [List.length_map,←hD.len] at hb
   simp at hb
  ·refine T_or_cons (t_isCmp (t_loc rfl (t_cmp (t_loc rfl (T_listF (T_spl_nil ⟨[],rfl,by simp,O_neNil R (fun d hd'=>?_) (O_neB R (truth_bool ⟨fun hb2=>?_,fun _=>?_⟩))⟩))))))
   ·obtain ⟨x,hx,rfl⟩:=List.mem_map.mp hd'
    exact flat0_sym (hrS x hx)
   ·exfalso
    subst hb
    simp at hb2
   ·refine T_or_cons (t_isCmp (t_inst (C:=137) (f:=106) (t_loc rfl ⟨_,rfl,isInst_obj (.inl gfx) (.inl gf.hdx) rfl,t_a0 (CallT.self fa.sa.x <| W_isactive (n:=n+7) R gf fa.rl (by rw [fa.rd];simp) ?_)⟩) (k137_get _ _) (k137_active _) (k106_ty _) (k106_kp _)))
    rw [fa.rd,fa.po]
    refine T_true (O_isNotB (truth_bool ⟨fun hb3=>?_,fun _=>T_or_nil ⟨nofun,fun _=>T_nil (Nx.next (T_nil (NxP.next rfl)))⟩⟩))
    simp at hb3
end
end Mine
end
section
set_option maxHeartbeats 1000000
namespace Mine
noncomputable def RetT:SFlow→Sig→Prop:=fun fl _=>fl=.ret (.d (.bool true))
theorem rng_small {m:Nat} (h:m≤60):Builtin.Range.rangeSize 1 ((m:Int)+1) 1=m∧Builtin.Range.small 1 ((m:Int)+1) 1=true:=by
 revert m;decide +kernel
section
variable {G:GC} {A:Around} {σ:Sig} {n:Nat} {L f:Addr} {cd:Value}
theorem seg25n (R:Rm (n+9) A) {hd sx tl dd:Addr} {ff:FMap} {b:Bool} {k:Int} {rest:List Stmt} (hr:ringsOf ff=[]) (ok:FrOk σ L (csLaw L)) :
  TF G.c A (execs (lawS G.w.params 25 :: rest) (lawEnv (lawScope G.w.params) L f cd)) (fr σ L (csLaw L) (mkm (frL23 hd sx (.d .none) b tl k ff dd))) RetT:=by
 refine eqv (Φ:=fun sc=>TF G.c A (execs _ (lawEnv sc L f cd)) _ _) (a':=⟨_,_,_,_,_⟩) rfl ?_
 refine T_cons (eqv (Φ:=fun st=>TF G.c A (exec st _) _ _) (a':=.If _ _ _ _) rfl ?_)
 refine T_if (T_isBool (T_or_cons (t_isCmp (t_cell rfl ok (T_none (O_isNone none_none (truth_bool ⟨fun _=>⟨fun _=>?_,nofun⟩,nofun⟩)))))))
 refine T_cons (T_ret (T_and2 (t_cmp (t_cell rfl ok (T_none (O_isNone none_none (truth_bool ⟨fun _=>t_cmp (t_loc rfl (T_listF (T_spl_nil ⟨[],rfl,by simp,O_eqNil R (fun d hd'=>?_) ?_⟩))),nofun⟩)))))))
 ·rw [hr] at hd';cases hd'
 ·rw [hr];rfl
theorem seg25r (R:Rm (n+9) A) {hd sx tl dd:Addr} {ff:FMap} {b:Bool} {k:Int} {ring:List Int} (hr:ringsOf ff≠[]) (hrS:∀ x∈ringsOf ff,IsSym x) (ok:FrOk σ L (csLaw L)) :
  TF G.c A (execs [lawS G.w.params 25] (lawEnv (lawScope G.w.params) L f cd)) (fr σ L (csLaw L) (mkm (frL23 hd sx (.d (.list (ring.map PyData.int))) b tl k ff dd))) (NxP fun σ'=>σ'=fr σ L (csLaw L) (mkm (frL23 hd sx (.d (.list (ring.map PyData.int))) b tl k ff dd))):=by
 refine eqv (Φ:=fun sc=>TF G.c A (execs _ (lawEnv sc L f cd)) _ _) (a':=⟨_,_,_,_,_⟩) rfl ?_
 refine T_cons (eqv (Φ:=fun st=>TF G.c A (exec st _) _ _) (a':=.If _ _ _ _) rfl ?_)
 refine T_if (T_isBool (T_or_cons (t_isCmp (t_cell rfl ok (T_none (O_isNone none_list (truth_bool ⟨nofun,fun _=>T_or_cons (t_isCmp (t_loc rfl (T_listF (T_spl_nil ⟨[],rfl,by simp,O_eqNil R (fun d hd'=>?_) (truth_bool ⟨fun hb=>?_,fun _=>T_or_nil ⟨nofun,fun _=>T_nil (Nx.next (T_nil (NxP.next rfl)))⟩⟩)⟩))))⟩)))))))
 ·obtain ⟨x,hx,rfl⟩:=List.mem_map.mp hd'
  exact flat0_sym (hrS x hx)
 ·exfalso
  simp at hb
  exact hr hb
theorem seg26 (R:Rm (n+9) A) {hd sx tl dd:Addr} {ff:FMap} {b:Bool} {k:Int} {g:AG} {ring:List Int} (hring:IsRing g ring) (hl:ring.length≤60) (ok:FrOk σ L (csLaw L)) :
  TF G.c A (execs [lawS G.w.params 26] (lawEnv (lawScope G.w.params) L f cd)) (fr σ L (csLaw L) (mkm (frL23 hd sx (.d (.list (ring.map PyData.int))) b tl k ff dd))) (NxP fun σ'=>σ'=fr σ L (csLaw L) (mkm (frL23 hd sx (.d (.list (ring.map PyData.int))) b tl k ff dd))):=by
 refine eqv (Φ:=fun sc=>TF G.c A (execs _ (lawEnv sc L f cd)) _ _) (a':=⟨_,_,_,_,_⟩) rfl ?_
 refine T_cons (eqv (Φ:=fun st=>TF G.c A (exec st _) _ _) (a':=.If _ _ _ _) rfl ?_)
 obtain ⟨x,l,hrl,hnd⟩:=hring.ex
 have hlen:ring.length=l.length+2:=by rw [hrl];simp
 have hdl:((ring.map PyData.int).map SV.d).length=ring.length:=by rw [List.length_map,List.length_map]
 have h0:((ring.map PyData.int).map SV.d)[(0:Int).toNat]?=some (.d (.int x)):=by rw [hrl];rfl
 have hlast:(ring.map PyData.int).map SV.d=(((x :: l).map PyData.int).map SV.d)++[SV.d (.int x)]:=by rw [hrl];simp
 refine T_if (T_isBool (T_or_cons (t_isCmp (t_callB rfl (by rfl) (by decide) (kept_builtin _) (t_a1 (t_cell rfl ok (O_len .d (by rw [hdl];exact om243 hl hlen hdl) (T_int (O_ltI (truth_bool ⟨fun hb=>?_,fun _=>?_⟩))))))))))
 ·exfalso
  rw [hdl,hlen] at hb
  simp at hb
  exact om242 hl hlen hdl hb
 ·refine T_or_cons (t_isCmp (t_sub slot_list_getitem.lookup (t_cell rfl ok (T_int ⟨typeL .d,G_list .d (by decide) (by rw [hdl];exact om243 hl hlen hdl) h0 (t_sub slot_list_getitem.lookup (t_cell rfl ok (T_un (T_int (O_neg ⟨typeL .d,G_last (xs:=((x :: l).map PyData.int).map SV.d) (y:=.d (.int x)) (by rw [←hlast];exact .d) (by rw [List.length_map,List.length_map];simp at hlen ⊢;exact om263 hl hlen hdl) (O_neI (truth_bool ⟨fun hb=>?_,fun _=>?_⟩))⟩)))))⟩))))
  ·exfalso;simp at hb
  ·refine T_or_cons (t_isCmp (t_callB rfl (by rfl) (by decide) (kept_builtin _) (t_a1 (t_callB rfl (by rfl) (by decide) (kept_type _) (t_a1 (t_cell rfl ok (C_setL (ns:=ring) R asl_ints hl fun a kk ha hkk=>?_)))))))
   rw [upd_fr_none _ ha]
   have haσ:=(fr_none ha).2.2
   have ok2:=FrOk.new ok (some (.setI (fun k'=>(firstMet (fun i=>ring.getD i 0) ring.length).any (· == k')) kk)) ha
   have hk2:kk=l.length+1:=by
    rw [hkk,firstMet_len (ks:=x :: l) hnd fun y=>by rw [hrl];simp [or_comm]];simp
   refine O_lenS (fr_some ok2 (upd_self ..)) (om318 hl hlen hdl hkk hk2) (T_bin (t_callB rfl (by rfl) (by decide) (kept_builtin _) (t_a1 (t_cell rfl ok2 (O_len .d (by rw [hdl];exact om316 hl hlen hdl hkk hk2) (T_int (O_sub (O_neI (truth_bool ⟨fun hb=>?_,fun _=>T_or_nil ⟨nofun,fun _=>t_drop ok2 (upd_self ..) rfl fun ok3=>?_⟩⟩)))))))))
   ·exfalso
    rw [hdl,hlen,hk2] at hb
    simp at hb
    exact om129 hb
   ·rw [upd_upd,upd_id haσ]
    exact T_nil (Nx.next (T_nil (NxP.next rfl)))
theorem seg27 (R:Rm (n+9) A) {hd sx tl dd:Addr} {H ff:FMap} {V:List Int} {su:Int→List Int} {b:Bool} {k:Int} {ring:List Int} (C:Sec H ff V su (graphOf (hKV H) [])) (hring:IsRing (graphOf (hKV H) []) ring) (hl:ring.length≤60) (ok:FrOk σ L (csLaw L))
  (hhd:σ hd=some (.ro (.dictI ((hKV H).map fun p=>(p.1,SV.d (pL p.2)))))) :
  TF G.c A (execs [lawS G.w.params 27] (lawEnv (lawScope G.w.params) L f cd)) (fr σ L (csLaw L) (mkm (frL23 hd sx (.d (.list (ring.map PyData.int))) b tl k ff dd))) RetT:=by
 refine eqv (Φ:=fun sc=>TF G.c A (execs _ (lawEnv sc L f cd)) _ _) (a':=⟨_,_,_,_,_⟩) rfl ?_
 refine T_cons (eqv (Φ:=fun st=>TF G.c A (exec st _) _ _) (a':=.Return _ _) rfl ?_)
 obtain ⟨x,l,hrl,hnd⟩:=hring.ex
 have hlen:ring.length=l.length+2:=by rw [hrl];simp
 have hdl:((ring.map PyData.int).map SV.d).length=ring.length:=by rw [List.length_map,List.length_map]
 obtain ⟨hr1,hr2⟩:=rng_small (m:=l.length+1) (om262 hl hlen hdl)
 have hcr:=cell_in (x:=nRing) (m:=mkm (frL23 hd sx (.d (.list (ring.map PyData.int))) b tl k ff dd)) ok rfl
 have hch:=cell_in (x:=nHeads) (m:=mkm (frL23 hd sx (.d (.list (ring.map PyData.int))) b tl k ff dd)) ok rfl
 have hhdF:=fr_some (m:=mkm (frL23 hd sx (.d (.list (ring.map PyData.int))) b tl k ff dd)) ok hhd
 refine T_ret (t_cmp (t_compM (ys:=List.range (l.length+1)) (fun i:Nat=>SV.d (.int (1+(i:Int) * 1))) (fun _=>none) (fun _ _ _ _ _=>rfl) (t_callB rfl (by rfl) (by decide) (kept_type _) (t_a2 (T_int (t_callB rfl (by rfl) (by decide) (kept_builtin _) (t_a1 (t_cell rfl ok (O_len .d (by rw [hdl];exact om279 hl hlen hdl hr1) (C_range2 fun t u v=>?_))))))))))
 rw [hdl,hlen]
 refine ⟨it_range (m:=l.length+1) R hr1 hr2 ⟨_,_,rfl⟩,by rw [List.length_range];exact om280 hl hlen hdl hr1,fun Cc hC i hi m'=>t_asN ?_,?_⟩
 ·have hi:i < l.length+1:=List.mem_range.mp hi
  have ha:ring[i]?=some (ring[i]'(om308 hlen hdl hr1 hi)):=List.getElem?_eq_getElem _
  have hb:ring[i+1]?=some (ring[i+1]'(om307 hlen hdl hr1 hi)):=List.getElem?_eq_getElem _
  generalize (ring[i]'(om308 hlen hdl hr1 hi))=a at ha
  generalize (ring[i+1]'(om307 hlen hdl hr1 hi))=z at hb
  obtain ⟨hz,haz⟩:=C.ring hring ha hb
  have hz4:=isNm_four hz
  have ga:((ring.map PyData.int).map SV.d)[(1+(i:Int) * 1 - 1).toNat]?=some (.d (.int a)):=by
   rw [show (1+(i:Int) * 1 - 1).toNat=i by exact om79,List.getElem?_map,List.getElem?_map,ha];rfl
  have gz:((ring.map PyData.int).map SV.d)[(1+(i:Int) * 1).toNat]?=some (.d (.int z)):=by
   rw [show (1+(i:Int) * 1).toNat=i+1 by exact om81,List.getElem?_map,List.getElem?_map,hb];rfl
  have hz5:((ring.map PyData.int).map SV.d).length≤1000:=by rw [hdl];exact om279 hl hlen hdl hr1
  refine T_isBool (T_or_cons (T_isNot (t_isVal (t_callG (v:=.ref 158) rfl rfl (t_a1 (t_sub slot_list_getitem.lookup (t_ca (in_fr hC hcr) (t_loc rfl ⟨typeL .d,G_list .d (om76) hz5 gz (W_nonterm (n:=n+8) R (truth_bool ⟨fun hb=>?_,fun _=>?_⟩))⟩))))))))
  ·exfalso
   have:=hz.1
   simp at hb
   exact om19 this hb
  ·refine T_or_cons (t_isCmp (t_sub slot_list_getitem.lookup (t_ca (in_fr hC hcr) (T_bin (t_loc rfl (T_int (O_sub ⟨typeL .d,G_list .d (om75) hz5 ga ?_⟩)))))))
   refine t_sub slot_dict_getitem.lookup (t_ca (in_fr hC hch) (t_sub slot_list_getitem.lookup (t_ca (in_fr hC hcr) (t_loc rfl ⟨typeL .d,G_list .d (om76) hz5 gz ?_⟩))))
   refine ⟨typeD (DictR.I (.inr (in_fr hC hhdF))),G_dict (DictR.I (.inr (in_fr hC hhdF))) KeyR.int (sget_hk hz4) (O_ninI asl_ints (truth_bool ⟨fun hb=>?_,fun _=>T_or_nil ⟨nofun,fun _=>⟨fun _=>⟨rfl,_,rfl⟩,nofun⟩⟩⟩))⟩
   exfalso
   have:(H z).any (fun y=>y == a)=true:=List.any_eq_true.mpr ⟨a,haz,by simp⟩
   rw [this] at hb
   cases hb
 ·refine T_listF (T_spl_nil ⟨[],rfl,by simp,O_eqNil R (fun d hd'=>?_) ?_⟩)
  ·obtain ⟨_,_,e⟩:=List.mem_filterMap.mp hd';cases e
  ·have:((List.range (l.length+1)).filterMap fun _=>(none:Option PyData))=[]:=by simp
   rw [this];rfl
end
end Mine
end
section
set_option maxHeartbeats 1000000
namespace Mine
theorem dueStep_len {ops:List Int} {ff:FMap} (inv:FrInv ops ff) (ho:ops.length≤3) (K:Nat) (D:List (Int×DV)) (n:Int):(dueStep K ff D n).length≤D.length+4:=by
 have hs:(startsOf ff n).length≤3:=Nat.le_trans (nodup_len (starts_nd inv n) fun y hy=>starts_op inv hy) ho
 have hf:∀ (xs:List Int) (D:List (Int×DV)),(xs.foldl (fun D x=>aset D x ((0:Int),[x])) D).length≤D.length+xs.length:=fun xs=>by
  induction xs with
  | nil=>intro D;simp
  | cons x r ih =>
   intro D
   rw [List.foldl_cons]
   have h1:=ih (aset D x (0,[x]))
   have h2:=aset_len D x ((0:Int),[x])
   simp;omega
 unfold dueStep dueStarts
 have h1:=hf (startsOf ff n) (if goodB ff n=true then aset D n (chainN K ff n,sortI (startsOf ff n)) else D)
 have h2:(if goodB ff n=true then aset D n (chainN K ff n,sortI (startsOf ff n)) else D).length≤D.length+1:=by
  split
  ·exact aset_len _ _ _
  ·exact om128
 exact Nat.le_trans h1 (om259 hs h2)
theorem due_len {ops:List Int} {ff:FMap} (inv:FrInv ops ff) (ho:ops.length≤3) (K:Nat):(dueOf K ff).length≤16:=by
 unfold dueOf
 simp only [four,List.foldl_cons,List.foldl_nil]
 have h:=dueStep_len inv ho K
 have h1:=h [] 256
 have h2:=h (dueStep K ff [] 256) 257
 have h3:=h (dueStep K ff (dueStep K ff [] 256) 257) 258
 have h4:=h (dueStep K ff (dueStep K ff (dueStep K ff [] 256) 257) 258) 259
 simp only [List.length_nil] at h1
 exact om297 h1 h2 h3 h4
noncomputable def lwF (p:Params):List Nat→List (List Nat)→List Stmt
 | a,[]=>a.map (lawS p)
 | a,b :: r=>a.map (lawS p)++lwF p b r
section
variable {G:GC} {A:Around} {σ:Sig} {n:Nat} {L f:Addr} {cd:Value}
theorem law_body {w:Addr} {vs:List Value} {ns:List Int} (R:Rm (n+9) A) (hA:A.frames=some [lawEnv (lawScope G.w.params) L f cd]) (hw:G.h₀.IsList w vs.toArray) (hI:IntsAre vs ns) (ok:FrOk σ L (csLaw L)) :
  TF G.c A (execs (lawBody G.w.params) (lawEnv (lawScope G.w.params) L f cd)) (fr σ L (csLaw L) (mkm (frL0 w))) RetT:=by
 rw [lawBody_eq]
 generalize hp:G.w.params=p
 have hl:(List.range 28).map (lawS p)=lwF p [0] [[1,2],[3,4,5],[6,7,8],[9],[10],[11],[12],[13],[14],[15],[16,17],[18,19],[20],[21],[22],[23],[24],[25,26,27]]:=rfl
 rw [hl]
 clear hl
 subst hp
 refine T_app _ (seg0 (n:=n+7) R hw hI) ?_
 rintro _ ⟨ops,rs,g,m,fit,rfl⟩
 refine t_fit _ fit (T_app _ (seg12 (n:=n+7) R g ok) ?_)
 rintro _ ⟨m,fit,rfl⟩
 refine t_fit _ fit (T_app _ (seg35 (n:=n+7) R g ok) ?_)
 rintro _ ⟨m,fit,rfl⟩
 refine t_fit _ fit (T_app _ (seg68 (n:=n+4) R g ok) ?_)
 clear fit m
 rintro σ1 ⟨x,hd,B⟩
 refine T_app _ (seg9 (n:=n+4) R g B) ?_
 clear B σ1
 intro σ1 B
 obtain ⟨V1,P1,su1,F1⟩:=fst_of g
 refine T_app _ (seg10 (n:=n+4) R hA g B F1) ?_
 clear B σ1
 rintro σ1 ⟨a1,B⟩
 refine T_app _ (seg11 F1 g B) ?_
 clear B σ1
 rintro σ1 ⟨td,B⟩
 refine T_app _ (seg12b (n:=n+4) R g F1 B) ?_
 clear B σ1
 intro σ1 B
 refine T_app _ (seg13 (n:=n+4) R g B) ?_
 clear B σ1 F1 V1 P1 su1 a1
 rintro σ1 ⟨T,hT,_,B⟩
 have hnm:∀ r∈rs,IsNm r.1:=g.hd
 have C0:=clo_at (emp:=fun s=>(aget (emAt rs 4) s).isSome) hnm
 have inv:=inv_at g (fun s=>(aget (emAt rs 4) s).isSome) 4
 have hbd:=bd_heads g (fun s=>(aget (emAt rs 4) s).isSome)
 have hHl:∀ k,(headsOf (fun s=>(aget (emAt rs 4) s).isSome) rs k).length≤18:=fun k=>by
  have:=headsOf_len (emp:=fun s=>(aget (emAt rs 4) s).isSome) g.bl 6 k
  rwa [List.take_of_length_le (by rw [g.len];exact Nat.le_refl _)] at this
 have hHs:∀ k,∀ y∈headsOf (fun s=>(aget (emAt rs 4) s).isSome) rs k,IsNm y∨y∈ops:=fun k y hy=>by
  obtain ⟨r,hr,_,hy⟩:=headsOf_mem.mp hy
  exact g.sy r hr y (pref_sub hy)
 obtain ⟨V,su,C⟩:=sec_of C0
 refine T_app _ (seg14 (n:=n+3) R g B) ?_
 clear B σ1
 rintro σ1 ⟨sx,B⟩
 generalize hH:headsOf (fun s=>(aget (emAt rs 4) s).isSome) rs=H at *
 generalize hff:frAt (fun s=>(aget (emAt rs 4) s).isSome) rs 4=ff at *
 refine T_app _ (seg15 (n:=n+3) R hA C hbd B) ?_
 clear B σ1
 rintro σ1 ⟨rv,hrv,B⟩
 refine T_app _ (seg17 (n:=n+3) R hA C hbd B) ?_
 clear B σ1
 rintro σ1 ⟨a,held,hheld,B⟩
 refine T_app _ (seg1819 C B) ?_
 clear B σ1
 rintro σ1 ⟨tl,B⟩
 have hV7:∀ k∈V,k∈four++ops:=fun k hk=>by
  rcases (C.mem k).mp hk with h | ⟨z,h⟩
  ·exact List.mem_append_left _ h
  ·rcases hHs z k h with q | q
   ·exact List.mem_append_left _ (isNm_four q)
   ·exact List.mem_append_right _ q
 have hVl:V.length≤7:=by
  have:=nodup_len C.sg.vn hV7
  have:=g.ops3
  simp at *
  exact om187 ‹_› this
 have hVs:∀ k∈V,IsSym k:=fun k hk=>by
  rcases List.mem_append.mp (hV7 k hk) with h | h
  ·exact .inl (four_isNm h)
  ·exact .inr (g.op k h)
 refine T_app _ (seg20 (n:=n+3) R g C inv hbd hHl hVs hVl (fun k y hy=>(hHs k y hy).imp id (g.op y)) B) ?_
 clear B σ1
 rintro _ ⟨σ1,S,D,rfl,ok,fa,hD⟩
 refine T_app _ (seg21 (n:=n+3) R g ok fa) ?_
 clear fa ok σ1
 rintro _ ⟨σ1,e,rfl,ok,fa,he⟩
 refine T_app _ (seg22 (n:=n+3) R g ok fa he hT (Q:=RetT)) ?_
 rintro _ rfl
 refine T_app _ (seg23 (n:=n) R g ok fa he hff.symm inv fun k _ hk=>C.clo.good_deep hk) ?_
 clear fa ok he σ1
 rintro _ ⟨σ1,dd,rfl,ok,fa,hdd⟩
 have hrS:∀ x∈ringsOf ff,IsSym x:=fun x hx=>.inl (four_isNm (List.mem_filter.mp hx).1)
 have hac:=C.acyc
 have hb:held=!(ringsOf ff).isEmpty:=by
  cases held with
  | true =>
   have:=hheld.mp rfl
   rw [hac] at this
   cases e:ringsOf ff with
   | nil=>exact absurd e this
   | cons _ _=>rfl
  | false =>
   have:Acyc (graphOf (hKV H) []):=Classical.byContradiction fun z=>by have:=hheld.mpr z;cases this
   rw [hac.mp this];rfl
 refine T_app _ (seg24 (n:=n) R ok fa hdd hD (by rw [hD.len];have:=due_len inv g.ops3 5;exact om97 this) hb hrS) ?_
 rintro _ rfl
 rcases hrv with ⟨h1,rfl⟩ | ⟨ring,hring,hrl,rfl⟩
 ·exact seg25n (n:=n) R (hac.mp h1) ok
 ·have hne:ringsOf ff≠[]:=fun z=>ring_not_acyc hring (hac.mpr z)
  refine T_app (l1:=[lawS G.w.params 25]) (l2:=[lawS G.w.params 26,lawS G.w.params 27]) _ (seg25r (n:=n) R hne hrS ok) ?_
  rintro _ rfl
  refine T_app (l1:=[lawS G.w.params 26]) (l2:=[lawS G.w.params 27]) _ (seg26 (n:=n) R hring hrl ok) ?_
  rintro _ rfl
  exact seg27 (n:=n) R C hring hrl ok fa.sa.hhd
end
end Mine
end
section
set_option maxHeartbeats 1000000
namespace Mine
theorem law_ok (L:Addr):FrOk (fun _=>none) L (csLaw L) where
 free:=rfl
 cell:=fun p hp=>by
  simp only [csLaw,List.mem_cons,List.not_mem_nil,or_false] at hp
  rcases hp with rfl | rfl | rfl | rfl <;> exact ⟨rfl,Nat.ne_of_gt (Nat.lt_add_of_pos_right (by decide))⟩
 names:=by show [Str.ofString "empties",Str.ofString "told",Str.ofString "ring",Str.ofString "heads"].Nodup;decide
 apart:=by
  simp only [csLaw,List.map_cons,List.map_nil,List.nodup_cons,List.mem_cons,List.not_mem_nil,or_false,not_or]
  have h:∀ i j:Nat,i≠j→L+i≠L+j:=fun i j h e=>h (Nat.add_left_cancel e)
  exact ⟨⟨h _ _ (by decide),h _ _ (by decide),h _ _ (by decide)⟩,⟨h _ _ (by decide),h _ _ (by decide)⟩,h _ _ (by decide),not_false,List.nodup_nil⟩
section
variable {G:GC} {A:Around} {n:Nat} {L f:Addr} {cd:Value}
theorem law_st {a:Addr} {s:Shared} {m:Str→Option Value} {o0 o1 o2 o3:Obj} {c0 c1 c2 c3:Option Value}
  (F:Fr G.h₀ L s.heap m) (hm:m nScript=some (.ref a)) (N:News G.h₀ L s.heap [(L+4,o0),(L+3,o1),(L+2,o2),(L+1,o3)])
  (h0:o0.data=.cell c0) (h1:o1.data=.cell c1) (h2:o2.data=.cell c2) (h3:o3.data=.cell c3) :
  St G.c G.h₀.get? (fr (fun _=>none) L (csLaw L) (mkm (frL0 a))) s where
 base:=.refl _
 fz:=F.keep
 tr:=fun b o e=>by
  unfold fr at e
  split at e
  ·rename_i hb
   subst hb
   cases e
   refine ⟨get_fresh _ F.above,m,F.ns,fun x v hx=>?_⟩
   unfold hideC at hx
   split at hx
   ·cases hx
   ·unfold mkm frL0 at hx
    by_cases q:x=nScript
    ·subst q
     have:v=.ref a:=by
      have h:(List.lookup nScript [(nScript,SV.ref a)])=some v:=hx
      simp [List.lookup] at h
      exact h.symm
     subst this
     exact ⟨_,hm,rfl⟩
    ·have h:(List.lookup x [(nScript,SV.ref a)])=some v:=hx
     rw [List.lookup_cons] at h
     have:(x == nScript)=false:=by simpa using q
     rw [this] at h
     cases h
  ·split at e
   ·rename_i p hp
    have hk:=List.mem_of_find?_eq_some hp
    have hb:p.2=b:=by simpa using List.find?_some hp
    subst hb
    simp only [csLaw,List.mem_cons,List.not_mem_nil,or_false] at hk
    have hc:∀ {d:Addr} {ob:Obj} {cv:Option Value},(d,ob)∈[(L+4,o0),(L+3,o1),(L+2,o2),(L+1,o3)]→ob.data=.cell cv→G.h₀.get? d=none∧Holds G.c G.h₀.get? d (.cell none) s.heap:=fun hmem hd =>
     ⟨(N _ hmem).2.2,_,⟨_,(N _ hmem).1,hd⟩,fun x hx=>by cases hx⟩
    rcases hk with rfl | rfl | rfl | rfl <;> cases e
    ·exact hc (by simp) h0
    ·exact hc (by simp) h1
    ·exact hc (by simp) h2
    ·exact hc (by simp) h3
   ·cases e
theorem law_top {a:Addr} {vs:List Value} {ns:List Int} {s:Shared} {m:Str→Option Value} {o0 o1 o2 o3:Obj} {c0 c1 c2 c3:Option Value} {P:Flow→Shared→Prop} {E:Value→Shared→Prop}
  (R:Rm (n+9) A) (hA:A.frames=some [lawEnv (lawScope G.w.params) L f cd]) (hw:G.h₀.IsList a vs.toArray) (hI:IntsAre vs ns)
  (F:Fr G.h₀ L s.heap m) (hm:m nScript=some (.ref a)) (N:News G.h₀ L s.heap [(L+4,o0),(L+3,o1),(L+2,o2),(L+1,o3)])
  (h0:o0.data=.cell c0) (h1:o1.data=.cell c1) (h2:o2.data=.cell c2) (h3:o3.data=.cell c3)
  (hQ:∀ s':Shared,(∀ b o,G.h₀.get? b=some o→s'.heap.get? b=some o)→s'.os=s.os→s'.gens=s.gens→P (.ret (.bool true)) s') :
  wpAny (model G.prog G.w) A (execs (lawBody G.w.params) (lawEnv (lawScope G.w.params) L f cd)) P E s:=by
 have H:=law_st (G:=G) F hm N h0 h1 h2 h3
 refine (law_body (σ:=fun _=>none) R hA hw hI (law_ok L)).wp H fun v s1 F1 σ1 x r H1 X q=>?_
 cases q
 obtain ⟨v',rfl,hv⟩:=r
 obtain rfl:=rd_bool hv
 exact hQ s1 H1.old (by rw [X.rest]) (by rw [X.rest])
end
theorem rm_top (env:Env):Rm 9 (callerA.deeper env):=Rm.deeper (n:=9) ⟨rfl,by decide,by decide⟩ env
theorem law_good {c:ClaimW} {cl:Str→Option Addr} {mean:ExcName→Option Value} {args:List WData} {s₁ s':Shared} (hk:∀ b o,s₁.heap.get? b=some o→s'.heap.get? b=some o) (ho:s'.os=s₁.os) (hg:s'.gens=#[]) (hn:∀ cls,c.raises args cls=false) (hp:c.post args (.bool true) args=true) :
  GoodW c cl mean args s₁ (.ok (.ret (.bool true))) s':=⟨.inl ⟨_,_,[],rfl,hn,ReadsW.bool _,hp,fun _=>⟨List.nodup_nil,fun a ha=>by cases ha⟩⟩,hk,ho,hg⟩
end Mine
end
section
set_option maxRecDepth 1000000
set_option maxHeartbeats 4000000
namespace Mine
theorem left_of_boot {p q:Program} {loose:List Str} {Xt:Shared→Bool} {α:Type} {Yf:Shared→α} {Ya:World→α} {N:Nat} {g0:Bool} (row:String) {m₀:Nat} {ann:Option Value} {M:Nat}
  (e:opening p=plainProg p.main.scope.names) (hN:Nat.ble 600 N=true) (f:∀ s,fenceModules? p s=some s)
  (size:∀ w:World,((boot_heap w.params).isNs mainGlobals,(boot_heap w.params).objs.size,(boot_heap w.params).nsMap mainGlobals "__annotations__")=(true,m₀,ann))
  (le:Nat.ble M N=true)
  (run:∀ (b:Bool) (w:World) (os:OsState),(topRun treeTable p (w.withFollow row b) m₀ ann M ⟨boot_heap (w.withFollow row b).params,#[],boot_drawn,boot_toks,os⟩ (topStub p)).map (fun s =>
    (staticsOk (importedModules p.main.body) (boot_heap (w.withFollow row b).params) s.heap && namesBound p s.heap && gensDone s && laidKept (boot_heap (w.withFollow row b).params) s.heap,
     openSeen q loose (importedModules p.main.body) Xt g0 s,Yf s))=some (true,openGood q loose,Ya (w.withFollow row b))):LeftO p q loose Xt Yf Ya N g0:=fun w=>by
 obtain ⟨⟨h,gs,d,k,os⟩,e0,e'⟩:=Option.map_eq_some_iff.mp (boot_open e hN f w)
 obtain ⟨rfl,rfl,rfl,rfl⟩:h=boot_heap w.params∧gs=#[]∧d=boot_drawn∧k=boot_toks:=by simpa using e'
 obtain ⟨z1,z2,z3⟩:_∧_∧_:=by simpa only [Prod.mk.injEq] using size w
 have r:=run (w.params.followText row) w os
 rw [World.withFollow_self] at r
 obtain ⟨s,r1,r2⟩:=Option.map_eq_some_iff.mp r
 obtain ⟨l1,l2,l3⟩:_∧_∧_:=by simpa only [Prod.mk.injEq] using r2
 have r':=topRun_mono (N - M) _ _ _ _ r1
 rw [show M+(N - M)=N by have:=Nat.le_of_ble_eq_true le;exact om199 this] at r'
 have t:topFrom treeTable p w N ⟨boot_heap w.params,#[],boot_drawn,boot_toks,os⟩=some s:=by
  unfold topFrom
  dsimp only
  rw [z1,z2,z3,r']
  show (match staticsOk (importedModules p.main.body) (boot_heap w.params) s.heap && namesBound p s.heap && gensDone s && laidKept (boot_heap w.params) s.heap with | true=>_ | false=>_)=_
  rw [l1]
 unfold openEnds
 rw [e0]
 show (topFrom treeTable p w N _).map _=_
 rw [t]
 exact congrArg some (Prod.ext l2 l3)
noncomputable def KA:List Addr:=[3,35,36,39,40,41,42,43,46,54,55,66,72,73,79,80,86,87,91,92,98,99,105,106,119,120,126,127,136,137,142,150,151,157,158,164,165,171,172,176,177,183,184,188,189,195,196,200,201,205,206,210,211]
theorem KA_eq:∀ P,KA=(KN P).map (·.1):=fun _=>rfl
noncomputable abbrev HK:Hook:=kHook KN KA KA_eq
abbrev pw:=PySem.Challenge.pw_pm0076_01
noncomputable def qv:Program:=view pw [70]
noncomputable def lo:List Str:=pw.boundNames.filter fun x=>!(x == Str.ofString "law" || x == Str.ofString "__name__")
noncomputable def Xv (s:Shared):Bool:=xlAt qv [] s && recOk (RowW.records PySem.Challenge.rw_pm0076_01.row.toRowW) s
theorem op_eq:opening pw=plainProg pw.main.scope.names:=by kernel_rfl
theorem fen:(fun s=>fenceModules? pw s)=fun s=>some s:=by kernel_rfl
theorem size0:(fun w:World=>((boot_heap w.params).isNs mainGlobals,(boot_heap w.params).objs.size,(boot_heap w.params).nsMap mainGlobals "__annotations__"))=fun _=>(true,11,some (.ref 6)):=by kernel_rfl
noncomputable def bh (b:Bool) (w:World):Heap:=boot_heap (w.withFollow "special-get-raises" b).params
noncomputable def looks (b:Bool) (w:World) (s:Shared) :=
 (staticsOk (importedModules pw.main.body) (bh b w) s.heap && namesBound pw s.heap && gensDone s && laidKept (bh b w) s.heap,
  PySem.W.Fast.tw4187177175401517315 qv lo (importedModules pw.main.body) Xv true s,HK.obs s)
noncomputable def sees (b:Bool) (w:World):=some (true,openGood qv lo,HK.val (w.withFollow "special-get-raises" b))
noncomputable def run (b:Bool) (w:World) (os:OsState) :=
 PySem.W.Fast.tw14082659384304107361 PySem.W.Fast.tw14364793385576792824 pw (w.withFollow "special-get-raises" b) 11 (some (.ref 6)) 3000 ⟨bh b w,#[],boot_drawn,boot_toks,os⟩ (topStub pw)
theorem run0:(fun (w:World) (os:OsState)=>(run false w os).map (looks false w))=fun w _=>sees false w:=by kernel_rfl
theorem run1:(fun (w:World) (os:OsState)=>(run true w os).map (looks true w))=fun w _=>sees true w:=by kernel_rfl
theorem left:LeftO pw qv lo Xv HK.obs HK.val 5724:=left_of_boot "special-get-raises" (M:=3000) op_eq (by decide) (congrFun fen) (congrFun size0) (by decide) fun b w os=>by
 have h:(run b w os).map (looks b w)=sees b w:=by
  cases b
  ·exact congrFun (congrFun run0 w) os
  ·exact congrFun (congrFun run1 w) os
 unfold run looks at h
 rw [←PySem.W.Fast.te14082659384304107361,←PySem.W.Fast.te14364793385576792824,←PySem.W.Fast.te4187177175401517315] at h
 exact h
end Mine
end
section
set_option maxRecDepth 1000000
set_option maxHeartbeats 4000000
namespace Mine
abbrev rw:=PySem.Challenge.rw_pm0076_01
noncomputable def fPo:Stmt→Pos
 | .FunctionDef _ _ _ _ _ _ _ _ _ p=>p
 | _=>default
noncomputable def dLaw:DefRec:=⟨"law",fPs (stA 70),fBd (stA 70),fSc (stA 70),fPo (stA 70)⟩
theorem law_def:defOf qv rw.row.name=some (dLaw,[]):=by kernel_rfl
theorem law_the:rw.row.prog.theDef rw.row.name=some (dLaw.params,dLaw.body,dLaw.scope):=by kernel_rfl
theorem law_kw:kwWritten? dLaw.params.kwonlyargs dLaw.params.kw_defaults=some []:=by kernel_rfl
theorem wit:rw.row.toRowW.promised:=by w_witness2
theorem said:rw.wellSaid=true:=(congrFun PySem.W.Fast.te9446332074065402090 rw).trans (by kernel_rfl)
theorem okk:(chainsOk qv && opensWell rw.row.prog && (frees rw.row.toRowW && rw.row.within.isEmpty))=true:=by kernel_rfl
theorem bare:rw.row.prog.bare:=⟨rfl,rfl,rfl,rfl,rfl,by decide +kernel⟩
theorem head (call:WalkO qv lo (XL qv []) HK.says rw.row.toRowW dLaw [] fun f vs=>PySem.call f vs):rw.Holds :=
 holds_law said fun k1=>holds_open (Xt:=Xv) (Yf:=HK.obs) (Ya:=HK.val) (N:=5724) left HK.of HK.keeps (fun s e=>xl_of s (Bool.and_eq_true_iff.mp e).1) XL.keeps law_def law_the law_kw
  (fun s e=>recFacts_of (Bool.and_eq_true_iff.mp e).2) rfl k1 okk bare wit call
end Mine
end
set_option maxHeartbeats 4000000
theorem PySem.Challenge.cw_pm0076_01_holds : PySem.Challenge.rw_pm0076_01.Holds := by
  refine Mine.head (by
    intro w s₀ s₁ mg mb G Y fa o pm cd doc dV kV ho hd hcd hD hmg hg args vals as hpre hlay hrd hwl hlo
    have KX := kIn_of Y
    have X := (Ground.X G).1
    have V := (Ground.X G).2
    refine Ground.open G ?_
    intro T B D TE TW
    try (refine guard_noD D (by decide +kernel) ?_; clear D)
    obtain ⟨_, _, M⟩ := bmod_of_top T
    have TA := at_of_top T
    clear hmg
    wrow_args hpre hlay hrd hwl hlo
    all_goals (
      refine enter_call ?_
      w_top on
      try refine codeAny_mono ?_ (fun _ _ g => GoodW.toG g)
      have K0 := below_caller (Top.heap T)
      w_call any ho hd hcd hD T F
      clear hd TA)
    refine Mine.law_top (G := ⟨_, _, _, by assumption, _, _, _, _, topRead_of (by assumption)⟩) (n := 0) (Mine.rm_top _) rfl (by assumption) (by assumption) (by assumption) rfl (by assumption) (by assumption) (by assumption) (by assumption) (by assumption) ?_
    intro s' hk ho hg'
    refine Mine.law_good hk ho (hg'.trans (by assumption)) (raisesW_false (by wrow_none_raised)) ?_
    wrow_post)
