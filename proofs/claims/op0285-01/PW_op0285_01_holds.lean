import PyProof.Rows.All
import Wide.All
import OpenK.AllK
import Wide.FinOn
import Lean
import PySem.Challenge.RW_op0285_01
open PySem PySem.W PySem.W.X PySem.Spec PySem.Calls PyProof.Rows
set_option Elab.async false
set_option maxRecDepth 100000
set_option linter.all false
set_option linter.unusedVariables false
set_option maxHeartbeats 8000000
set_option genInjectivity false
set_option genSizeOf false
namespace Mine
theorem FK{α:Type}(l:List α):l++[]=l:=List.append_nil l
theorem FL{α:Type}(l:List α):l.Perm l:=List.Perm.refl l
theorem FM{α β:Type}{f:α→β}{l₁ l₂:List α}:(l₁++l₂).map f=l₁.map f++l₂.map f:=List.map_append
theorem FN{α:Type}{a:α}{l:List α}(m:List α):a∈l→a∈l++m:=List.mem_append_left m
theorem FO{α:Type}{a:α}(l:List α){m:List α}:a∈m→a∈l++m:=List.mem_append_right l
theorem FP{α β:Type}{l:List α}{a:α}{f:α→β}:a∈l→f a∈l.map f:=List.mem_map_of_mem
theorem FQ{α β:Type}{l:List α}(f:α→β):(l.map f).length=l.length:=List.length_map f
theorem FR{α β:Type}{f:α→β}{a:α}{l:List α}:(a::l).map f=f a::l.map f:=rfl
theorem FT{α:Type}{a:α}{l:List α}:(a::l).length=l.length+1:=rfl
theorem FU{α:Type}{a:α}:¬a∈[]:=List.not_mem_nil
theorem FV{α:Type}(l m n:List α):l++m++n=l++(m++n):=List.append_assoc l m n
theorem FW{α:Type}{a b:α}:a∈[b]↔a=b:=List.mem_singleton
theorem FX{α β:Type}{b:β}{f:α→β}{l:List α}:b∈l.map f↔∃a,a∈l∧f a=b:=List.mem_map
theorem FY{α:Type}{b:α}{l:List α}{a:α}:a∈b::l↔a=b∨a∈l:=List.mem_cons
theorem FZ{α:Type}{l m:List α}:(l++m).length=l.length+m.length:=List.length_append
theorem F0{α:Type}{a:α}{l m:List α}:a∈l++m↔a∈l∨a∈m:=List.mem_append
noncomputable abbrev u(l:List Nat):Str:=⟨⟨l⟩⟩
noncomputable abbrev U0:=u [47,99,108,97,105,109,47,99,117,116,46,112,121]
noncomputable abbrev U1:=u [32]
noncomputable abbrev U2:=u [115,101,108,102]
noncomputable abbrev U3:=u [97]
noncomputable abbrev U4:=u [95,95,105,110,105,116,95,95]
noncomputable abbrev U5:=u [99,112,121,51,49,51,46,103,114,97,112,104,108,105,98]
noncomputable abbrev U6:=u [115,111,114,116,101,114]
noncomputable abbrev U7:=u [114,111,119]
noncomputable abbrev U8:=u [99,112,121,51,49,51,46,115,104,108,101,120]
noncomputable abbrev U9:=u [105,116,39,115]
noncomputable abbrev vT:=u [39]
noncomputable abbrev vU:=u [97,114,114,111,119,115]
noncomputable abbrev v3:=u [95,95,100,111,99,95,95]
noncomputable abbrev v4:=u [108,97,119,95,111,112,48,50,56,53,95,48,49]
noncomputable abbrev xX:=u [105,111]
noncomputable abbrev yM:=u [95,95,109,111,100,117,108,101,95,95]
noncomputable abbrev yN:=u [95,95,102,105,114,115,116,108,105,110,101,110,111,95,95]
noncomputable abbrev yO:=u [95,95,115,116,97,116,105,99,95,97,116,116,114,105,98,117,116,101,115,95,95]
noncomputable abbrev yP:=u [110,111,100,101]
noncomputable abbrev yQ:=u [119,111,114,107]
noncomputable abbrev yR:=u [119,111,114,107,115]
noncomputable abbrev yS:=u [116,117,114,110]
noncomputable abbrev Au:=u [95,98,121,116,101,115,119,97,112]
noncomputable abbrev Av:=u [95,78,111,100,101,73,110,102,111]
noncomputable abbrev Aw:=u [67,121,99,108,101,69,114,114,111,114]
noncomputable abbrev Ax:=u [84,111,112,111,108,111,103,105,99,97,108,83,111,114,116,101,114]
noncomputable abbrev Ay:=u [95,105,110,100,101,120]
noncomputable abbrev Az:=u [73,79,66,97,115,101]
noncomputable abbrev AA:=u [84,101,120,116,73,79,66,97,115,101]
noncomputable abbrev AB:=u [66,121,116,101,115,73,79]
noncomputable abbrev AC:=u [83,116,114,105,110,103,73,79]
noncomputable abbrev AD:=u [106,111,105,110]
noncomputable abbrev AE:=u [115,104,108,101,120]
noncomputable abbrev AF:=u [115,112,108,105,116]
noncomputable abbrev AG:=u [113,117,111,116,101]
noncomputable abbrev AH:=u [95,108,97,119,95,116,97,112,101]
noncomputable abbrev AI:=u [95,108,97,119,95,110,97,109,101]
noncomputable abbrev AJ:=u [95,108,97,119,95,108,105,110,101]
noncomputable abbrev AK:=u [95,108,97,119,95,115,111,114,116,101,114]
noncomputable abbrev AL:=u [95,108,97,119,95,114,101,102,117,115,101,100]
noncomputable abbrev AM:=u [95,108,97,119,95,114,111,117,110,100,115]
noncomputable abbrev AO:=u [95,108,97,119,95,108,101,118,101,108,115]
noncomputable abbrev AP:=u [108,97,119]
noncomputable abbrev AQ:=u [114,101,97,100]
noncomputable abbrev AS:=u [110,97,109,101,115]
noncomputable abbrev Cb:=u [95,95,119,101,97,107,114,101,102,95,95]
noncomputable abbrev Cc:=u [95,95,105,116,101,114,95,95]
noncomputable abbrev Cd:=u [95,95,110,101,120,116,95,95]
noncomputable abbrev Ce:=u [112,117,110,99,116,117,97,116,105,111,110,95,99,104,97,114,115]
noncomputable abbrev Cf:=u [110,50,105]
noncomputable abbrev Cg:=u [39,34,39,34,39]
noncomputable abbrev Ch:=u [108,105,110,101]
noncomputable abbrev Ci:=u [119,105,100,116,104]
noncomputable abbrev Cj:=u [108,101,118,101,108,115]
noncomputable abbrev Cz:=u [110,112,114,101,100,101,99,101,115,115,111,114,115]
noncomputable abbrev CA:=u [115,117,99,99,101,115,115,111,114,115]
noncomputable abbrev CB:=u [95,103,101,116,95,110,111,100,101,105,110,102,111]
noncomputable abbrev CC:=u [112,114,101,112,97,114,101]
noncomputable abbrev CD:=u [103,101,116,95,114,101,97,100,121]
noncomputable abbrev CE:=u [105,115,95,97,99,116,105,118,101]
noncomputable abbrev CF:=u [100,111,110,101]
noncomputable abbrev CG:=u [95,102,105,110,100,95,99,121,99,108,101]
noncomputable abbrev CH:=u [95,95,100,105,99,116,95,95]
noncomputable abbrev CI:=u [95,95,110,101,119,95,95]
noncomputable abbrev CJ:=u [103,101,116,95,116,111,107,101,110]
noncomputable abbrev CK:=u [114,101,97,100,95,116,111,107,101,110]
noncomputable abbrev CL:=u [105,116,39,34,39,34,39,115]
noncomputable abbrev CM:=u [110,101,101,100]
noncomputable abbrev CN:=u [115,99,114,105,112,116]
noncomputable abbrev CO:=u [116,97,112,101,115]
noncomputable abbrev CP:=u [116,117,114,110,101,100]
noncomputable abbrev CQ:=u [108,105,110,101,115]
noncomputable abbrev EC:=u [95,95,110,97,109,101,95,95]
noncomputable abbrev ED:=u [95,95,112,97,99,107,97,103,101,95,95]
noncomputable abbrev EE:=u [95,95,108,111,97,100,101,114,95,95]
noncomputable abbrev EF:=u [95,95,115,112,101,99,95,95]
noncomputable abbrev EG:=u [95,78,111,100,101,73,110,102,111,46,95,95,105,110,105,116,95,95]
noncomputable abbrev EH:=u [84,111,112,111,108,111,103,105,99,97,108,83,111,114,116,101,114,46,95,95,105,110,105,116,95,95]
noncomputable abbrev EI:=u [84,111,112,111,108,111,103,105,99,97,108,83,111,114,116,101,114,46,95,103,101,116,95,110,111,100,101,105,110,102,111]
noncomputable abbrev EJ:=u [84,111,112,111,108,111,103,105,99,97,108,83,111,114,116,101,114,46,97,100,100]
noncomputable abbrev EK:=u [84,111,112,111,108,111,103,105,99,97,108,83,111,114,116,101,114,46,112,114,101,112,97,114,101]
noncomputable abbrev EL:=u [84,111,112,111,108,111,103,105,99,97,108,83,111,114,116,101,114,46,103,101,116,95,114,101,97,100,121]
noncomputable abbrev EM:=u [84,111,112,111,108,111,103,105,99,97,108,83,111,114,116,101,114,46,105,115,95,97,99,116,105,118,101]
noncomputable abbrev EN:=u [84,111,112,111,108,111,103,105,99,97,108,83,111,114,116,101,114,46,100,111,110,101]
noncomputable abbrev EO:=u [84,111,112,111,108,111,103,105,99,97,108,83,111,114,116,101,114,46,95,102,105,110,100,95,99,121,99,108,101]
noncomputable abbrev EP:=u [73,79,66,97,115,101,46,95,95,110,101,119,95,95]
noncomputable abbrev EQ:=u [83,116,114,105,110,103,73,79,46,95,95,105,110,105,116,95,95]
noncomputable abbrev ER:=u [95,95,116,114,97,110,115,108,97,116,101,100]
noncomputable abbrev ES:=u [83,116,114,105,110,103,73,79,46,95,95,116,114,97,110,115,108,97,116,101,100]
noncomputable abbrev ET:=u [83,116,114,105,110,103,73,79,46,95,95,99,104,101,99,107]
noncomputable abbrev EU:=u [83,116,114,105,110,103,73,79,46,114,101,97,100]
noncomputable abbrev EV:=u [115,104,108,101,120,46,95,95,105,110,105,116,95,95]
noncomputable abbrev EW:=u [115,104,108,101,120,46,112,117,110,99,116,117,97,116,105,111,110,95,99,104,97,114,115]
noncomputable abbrev EX:=u [115,104,108,101,120,46,103,101,116,95,116,111,107,101,110]
noncomputable abbrev EY:=u [115,104,108,101,120,46,114,101,97,100,95,116,111,107,101,110]
noncomputable abbrev EZ:=u [115,104,108,101,120,46,95,95,105,116,101,114,95,95]
noncomputable abbrev E0:=u [115,104,108,101,120,46,95,95,110,101,120,116,95,95]
noncomputable abbrev E1:=u [110,111,100,101,105,110,102,111]
noncomputable abbrev E2:=u [60,103,101,110,101,120,112,114,62]
noncomputable abbrev E3:=u [106,111,105,110,46,60,108,111,99,97,108,115,62,46,60,103,101,110,101,120,112,114,62]
noncomputable abbrev At:=u [115,119,97,112,112,101,100,95,100,97,116,97]
noncomputable abbrev de(P:Params)(x:Str)(t:Tok)(v:Value):DictEntry:=⟨PyData.keyHash P x,.str x t,v⟩
noncomputable def br:List Stmt→Nat→Stmt
 |[],_=>.Pass default
 |s::_,0=>s
 |_::l,i+1=>br l i
noncomputable def aj(i:Nat):Stmt:=br PySem.Challenge.pw_op0285_01.main.body i
noncomputable def az(s:Stmt)(j:Nat):Stmt:=match s with
 |.ClassDef _ _ _ b _ _ _ _ _ _ _=>br b j
 |s=>s
noncomputable def aF:Stmt→Arguments
 |.FunctionDef _ a _ _ _ _ _ _ _ _=>a
 |_=>⟨[],[],none,[],[],none,[]⟩
noncomputable def aE:Stmt→List Stmt
 |.FunctionDef _ _ b _ _ _ _ _ _ _=>b
 |_=>[]
noncomputable def aX:Stmt→Scope
 |.FunctionDef _ _ _ _ _ _ s _ _ _=>s
 |_=>default
inductive T2 where
 |leaf
 |node (k:Nat) (o:Obj) (l r:T2)
noncomputable def T2.get(t:T2)(a:Nat):Option Obj:=
 @T2.rec (λ_=>Option Obj) none (λk o _ _ gl gr=>@Bool.rec (λ_=>Option Obj) (@Bool.rec (λ_=>Option Obj) gr gl (Nat.blt a k)) (some o) (Nat.beq a k)) t
noncomputable def o0(P:Params):Obj:=⟨(.type SL.s14018661285674007319x4),none,.dict ⟨[(de P EC 1 (.str (u [98,117,105,108,116,105,110,115]) 160)),(de P v3 2 (.builtin "builtins.__doc__:str#opaque")),(de P ED 3 (.builtin "builtins.__package__:str#opaque")),(de P EE 4 (.builtin "builtins.__loader__:shared#opaque")),(de P EF 5 (.builtin SL.s11665532747177232413x24)),(de P (u [95,95,98,117,105,108,100,95,99,108,97,115,115,95,95]) 6 (.builtin SL.s15183661809925369436x15)),(de P (u [95,95,105,109,112,111,114,116,95,95]) 7 (.builtin SL.s13915890719876406383x10)),(de P (u [97,98,115]) 8 (.builtin SL.s13459172003223722735x3)),(de P (u [97,108,108]) 9 (.builtin SL.s10557405761357834076x3)),(de P (u [97,110,121]) 10 (.builtin SL.s4233737765568776869x3)),(de P (u [97,115,99,105,105]) 11 (.builtin SL.s2508922471967985374x5)),(de P (u [98,105,110]) 12 (.builtin SL.s15574269061696679450x3)),(de P (u [98,114,101,97,107,112,111,105,110,116]) 13 (.builtin SL.s6016482663378992977x10)),(de P (u [99,97,108,108,97,98,108,101]) 14 (.builtin SL.s5596568736180474577x8)),(de P (u [99,104,114]) 15 (.builtin SL.s2839554839881490554x3)),(de P (u [99,111,109,112,105,108,101]) 16 (.builtin SL.s725004073602090463x7)),(de P (u [100,101,108,97,116,116,114]) 17 (.builtin SL.s9436932552931045734x7)),(de P (u [100,105,114]) 18 (.builtin SL.s2754603736356183583x3)),(de P (u [100,105,118,109,111,100]) 19 (.builtin SL.s15185746759980889043x6)),(de P (u [101,118,97,108]) 20 (.builtin SL.s8192189862530294059x4)),(de P (u [101,120,101,99]) 21 (.builtin SL.s7038307821325472102x4)),(de P (u [102,111,114,109,97,116]) 22 (.builtin SL.s5662562618415449548x6)),(de P (u [103,101,116,97,116,116,114]) 23 (.builtin SL.s15281542589158584767x7)),(de P (u [103,108,111,98,97,108,115]) 24 (.builtin SL.s17651547275483570877x7)),(de P (u [104,97,115,97,116,116,114]) 25 (.builtin SL.s4036449017235975746x7)),(de P (u [104,97,115,104]) 26 (.builtin SL.s8879979712987360175x4)),(de P (u [104,101,120]) 27 (.builtin SL.s1801250619170735830x3)),(de P (u [105,100]) 28 (.builtin SL.s17659931425627118568x2)),(de P (u [105,110,112,117,116]) 29 (.builtin SL.s6063217899685152688x5)),(de P (u [105,115,105,110,115,116,97,110,99,101]) 30 (.builtin SL.s8008927332132565319x10)),(de P (u [105,115,115,117,98,99,108,97,115,115]) 31 (.builtin SL.s3544116645089599534x10)),(de P (u [105,116,101,114]) 32 (.builtin SL.s13761710972054866084x4)),(de P (u [97,105,116,101,114]) 33 (.builtin SL.s12896375587409280029x5)),(de P (u [108,101,110]) 34 (.builtin SL.s13014049009108672802x3)),(de P (u [108,111,99,97,108,115]) 35 (.builtin SL.s13935586738268321596x6)),(de P (u [109,97,120]) 36 (.builtin SL.s8200498257699607233x3)),(de P (u [109,105,110]) 37 (.builtin SL.s14114244577727609259x3)),(de P (u [110,101,120,116]) 38 (.builtin SL.s1499430450269397089x4)),(de P (u [97,110,101,120,116]) 39 (.builtin SL.s8755793994789770505x5)),(de P (u [111,99,116]) 40 (.builtin SL.s15725212667919936108x3)),(de P (u [111,114,100]) 41 (.builtin SL.s15791221867095933363x3)),(de P (u [112,111,119]) 42 (.builtin SL.s81309575031448614x3)),(de P (u [112,114,105,110,116]) 43 (.builtin SL.s8069831620301644142x5)),(de P (u [114,101,112,114]) 44 (.builtin SL.s10061844253413749634x4)),(de P (u [114,111,117,110,100]) 45 (.builtin SL.s9496514870978017513x5)),(de P (u [115,101,116,97,116,116,114]) 46 (.builtin SL.s8899691144933366716x7)),(de P (u [115,111,114,116,101,100]) 47 (.builtin SL.s15201008993051130160x6)),(de P (u [115,117,109]) 48 (.builtin SL.s741896355592496720x3)),(de P (u [118,97,114,115]) 49 (.builtin SL.s17925004256654032244x4)),(de P (u [78,111,110,101]) 50 .none),(de P (u [69,108,108,105,112,115,105,115]) 51 .ellipsis),(de P (u [78,111,116,73,109,112,108,101,109,101,110,116,101,100]) 52 .notImplemented),(de P (u [70,97,108,115,101]) 53 (.bool false)),(de P (u [84,114,117,101]) 54 (.bool true)),(de P (u [98,111,111,108]) 55 (.type SL.s11695548795398191787x4)),(de P (u [109,101,109,111,114,121,118,105,101,119]) 56 (.type SL.s4156966113859768872x10)),(de P (u [98,121,116,101,97,114,114,97,121]) 57 (.type SL.s9501651726347032510x9)),(de P (u [98,121,116,101,115]) 58 (.type SL.s15722918466584999320x5)),(de P (u [99,108,97,115,115,109,101,116,104,111,100]) 59 (.type SL.s591115383303110208x11)),(de P (u [99,111,109,112,108,101,120]) 60 (.type SL.s15721156781594690315x7)),(de P (u [100,105,99,116]) 61 (.type SL.s14018661285674007319x4)),(de P (u [101,110,117,109,101,114,97,116,101]) 62 (.type SL.s14340494229221121180x9)),(de P (u [102,105,108,116,101,114]) 63 (.type SL.s13429844117177748173x6)),(de P (u [102,108,111,97,116]) 64 (.type SL.s16463266125957815391x5)),(de P (u [102,114,111,122,101,110,115,101,116]) 65 (.type SL.s4922535414793169389x9)),(de P (u [112,114,111,112,101,114,116,121]) 66 (.type SL.s8101838861749082086x8)),(de P (u [105,110,116]) 67 (.type SL.s7066276694103001551x3)),(de P (u [108,105,115,116]) 68 (.type SL.s9222952809800978799x4)),(de P (u [109,97,112]) 69 (.type SL.s462964344163437139x3)),(de P (u [111,98,106,101,99,116]) 70 (.type SL.s2742458400755230247x6)),(de P (u [114,97,110,103,101]) 71 (.type SL.s1438033511350832697x5)),(de P (u [114,101,118,101,114,115,101,100]) 72 (.type SL.s14365286008749172514x8)),(de P (u [115,101,116]) 73 (.type SL.s3642769012341782148x3)),(de P (u [115,108,105,99,101]) 74 (.type SL.s4674234679698826739x5)),(de P (u [115,116,97,116,105,99,109,101,116,104,111,100]) 75 (.type SL.s16656946322747308186x12)),(de P (u [115,116,114]) 76 (.type SL.s10796804682411823810x3)),(de P (u [115,117,112,101,114]) 77 (.type SL.s4290257624100764138x5)),(de P (u [116,117,112,108,101]) 78 (.type SL.s2766695959194262286x5)),(de P (u [116,121,112,101]) 79 (.type SL.s17162191345867700912x4)),(de P (u [122,105,112]) 80 (.type SL.s14339709457334898076x3)),(de P (u [95,95,100,101,98,117,103,95,95]) 81 (.bool true)),(de P (u [66,97,115,101,69,120,99,101,112,116,105,111,110]) 82 (.type SL.s4278001404047624695x13)),(de P (u [66,97,115,101,69,120,99,101,112,116,105,111,110,71,114,111,117,112]) 83 (.type SL.s6585700554429387442x18)),(de P (u [69,120,99,101,112,116,105,111,110]) 84 (.type SL.s5946037652744460706x9)),(de P (u [71,101,110,101,114,97,116,111,114,69,120,105,116]) 85 (.type SL.s7410770068591931388x13)),(de P (u [75,101,121,98,111,97,114,100,73,110,116,101,114,114,117,112,116]) 86 (.type SL.s11817881795495490833x17)),(de P (u [83,121,115,116,101,109,69,120,105,116]) 87 (.type SL.s15679963881808890155x10)),(de P (u [65,114,105,116,104,109,101,116,105,99,69,114,114,111,114]) 88 (.type SL.s3871700062485845797x15)),(de P (u [65,115,115,101,114,116,105,111,110,69,114,114,111,114]) 89 (.type SL.s7689518266570723881x14)),(de P (u [65,116,116,114,105,98,117,116,101,69,114,114,111,114]) 90 (.type SL.s9001593270443806431x14)),(de P (u [66,117,102,102,101,114,69,114,114,111,114]) 91 (.type SL.s6882542574934516792x11)),(de P (u [69,79,70,69,114,114,111,114]) 92 (.type SL.s14403400214490484960x8)),(de P (u [73,109,112,111,114,116,69,114,114,111,114]) 93 (.type SL.s14457978657717015782x11)),(de P (u [76,111,111,107,117,112,69,114,114,111,114]) 94 (.type SL.s1753610191782819921x11)),(de P (u [77,101,109,111,114,121,69,114,114,111,114]) 95 (.type SL.s14119380538032626715x11)),(de P (u [78,97,109,101,69,114,114,111,114]) 96 (.type SL.s11437920000406562045x9)),(de P (u [79,83,69,114,114,111,114]) 97 (.type SL.s10852414792293593619x7)),(de P (u [82,101,102,101,114,101,110,99,101,69,114,114,111,114]) 98 (.type SL.s14816307405966870543x14)),(de P (u [82,117,110,116,105,109,101,69,114,114,111,114]) 99 (.type SL.s8682627914449686677x12)),(de P (u [83,116,111,112,65,115,121,110,99,73,116,101,114,97,116,105,111,110]) 100 (.type SL.s4428170145600203450x18)),(de P (u [83,116,111,112,73,116,101,114,97,116,105,111,110]) 101 (.type SL.s5991306692159431302x13)),(de P (u [83,121,110,116,97,120,69,114,114,111,114]) 102 (.type SL.s16067994140765818257x11)),(de P (u [83,121,115,116,101,109,69,114,114,111,114]) 103 (.type SL.s2327743974964600596x11)),(de P (u [84,121,112,101,69,114,114,111,114]) 104 (.type SL.s2804747833354056582x9)),(de P (u [86,97,108,117,101,69,114,114,111,114]) 105 (.type SL.s6070975301684473832x10)),(de P (u [87,97,114,110,105,110,103]) 106 (.type SL.s14270485950484850486x7)),(de P (u [70,108,111,97,116,105,110,103,80,111,105,110,116,69,114,114,111,114]) 107 (.type SL.s12041534306414923332x18)),(de P (u [79,118,101,114,102,108,111,119,69,114,114,111,114]) 108 (.type SL.s2531307568338490285x13)),(de P (u [90,101,114,111,68,105,118,105,115,105,111,110,69,114,114,111,114]) 109 (.type SL.s631175304937289666x17)),(de P (u [66,121,116,101,115,87,97,114,110,105,110,103]) 110 (.type SL.s5144983644357021410x12)),(de P (u [68,101,112,114,101,99,97,116,105,111,110,87,97,114,110,105,110,103]) 111 (.type SL.s18039099521571816885x18)),(de P (u [69,110,99,111,100,105,110,103,87,97,114,110,105,110,103]) 112 (.type SL.s6011586214260557989x15)),(de P (u [70,117,116,117,114,101,87,97,114,110,105,110,103]) 113 (.type SL.s5430567037509283100x13)),(de P (u [73,109,112,111,114,116,87,97,114,110,105,110,103]) 114 (.type SL.s8117915138073963741x13)),(de P (u [80,101,110,100,105,110,103,68,101,112,114,101,99,97,116,105,111,110,87,97,114,110,105,110,103]) 115 (.type SL.s3423317712779056401x25)),(de P (u [82,101,115,111,117,114,99,101,87,97,114,110,105,110,103]) 116 (.type SL.s2007317383269046180x15)),(de P (u [82,117,110,116,105,109,101,87,97,114,110,105,110,103]) 117 (.type SL.s17481586968713580700x14)),(de P (u [83,121,110,116,97,120,87,97,114,110,105,110,103]) 118 (.type SL.s2450899226349176912x13)),(de P (u [85,110,105,99,111,100,101,87,97,114,110,105,110,103]) 119 (.type SL.s16626165730633575011x14)),(de P (u [85,115,101,114,87,97,114,110,105,110,103]) 120 (.type SL.s14288496050688921416x11)),(de P (u [66,108,111,99,107,105,110,103,73,79,69,114,114,111,114]) 121 (.type SL.s5735081916595925998x15)),(de P (u [67,104,105,108,100,80,114,111,99,101,115,115,69,114,114,111,114]) 122 (.type SL.s3865607918536308442x17)),(de P (u [67,111,110,110,101,99,116,105,111,110,69,114,114,111,114]) 123 (.type SL.s13337502604062700212x15)),(de P (u [70,105,108,101,69,120,105,115,116,115,69,114,114,111,114]) 124 (.type SL.s13114017843053701147x15)),(de P (u [70,105,108,101,78,111,116,70,111,117,110,100,69,114,114,111,114]) 125 (.type SL.s17467278006356818441x17)),(de P (u [73,110,116,101,114,114,117,112,116,101,100,69,114,114,111,114]) 126 (.type SL.s17722149559621369488x16)),(de P (u [73,115,65,68,105,114,101,99,116,111,114,121,69,114,114,111,114]) 127 (.type SL.s7855274175708717672x17)),(de P (u [78,111,116,65,68,105,114,101,99,116,111,114,121,69,114,114,111,114]) 128 (.type SL.s13351283678309829046x18)),(de P (u [80,101,114,109,105,115,115,105,111,110,69,114,114,111,114]) 129 (.type SL.s6668348653404991179x15)),(de P (u [80,114,111,99,101,115,115,76,111,111,107,117,112,69,114,114,111,114]) 130 (.type SL.s12913350958174193794x18)),(de P (u [84,105,109,101,111,117,116,69,114,114,111,114]) 131 (.type SL.s16115879512475548326x12)),(de P (u [73,110,100,101,110,116,97,116,105,111,110,69,114,114,111,114]) 132 (.type SL.s15920661018069861047x16)),(de P (u [95,73,110,99,111,109,112,108,101,116,101,73,110,112,117,116,69,114,114,111,114]) 133 (.type SL.s10779130036587390575x21)),(de P (u [73,110,100,101,120,69,114,114,111,114]) 134 (.type SL.s7801419657504700863x10)),(de P (u [75,101,121,69,114,114,111,114]) 135 (.type SL.s1688129525768580628x8)),(de P (u [77,111,100,117,108,101,78,111,116,70,111,117,110,100,69,114,114,111,114]) 136 (.type SL.s1031832959479892071x19)),(de P (u [78,111,116,73,109,112,108,101,109,101,110,116,101,100,69,114,114,111,114]) 137 (.type SL.s8991790508128307865x19)),(de P (u [80,121,116,104,111,110,70,105,110,97,108,105,122,97,116,105,111,110,69,114,114,111,114]) 138 (.type SL.s14539662485746970245x23)),(de P (u [82,101,99,117,114,115,105,111,110,69,114,114,111,114]) 139 (.type SL.s11643622729373238714x14)),(de P (u [85,110,98,111,117,110,100,76,111,99,97,108,69,114,114,111,114]) 140 (.type SL.s3386828779285465597x17)),(de P (u [85,110,105,99,111,100,101,69,114,114,111,114]) 141 (.type SL.s13042696260734638735x12)),(de P (u [66,114,111,107,101,110,80,105,112,101,69,114,114,111,114]) 142 (.type SL.s18239426817015966623x15)),(de P (u [67,111,110,110,101,99,116,105,111,110,65,98,111,114,116,101,100,69,114,114,111,114]) 143 (.type SL.s1270395311379034370x22)),(de P (u [67,111,110,110,101,99,116,105,111,110,82,101,102,117,115,101,100,69,114,114,111,114]) 144 (.type SL.s10696252587037064777x22)),(de P (u [67,111,110,110,101,99,116,105,111,110,82,101,115,101,116,69,114,114,111,114]) 145 (.type SL.s7852717498200857586x20)),(de P (u [84,97,98,69,114,114,111,114]) 146 (.type SL.s6377248116197321094x8)),(de P (u [85,110,105,99,111,100,101,68,101,99,111,100,101,69,114,114,111,114]) 147 (.type SL.s3834378056692298002x18)),(de P (u [85,110,105,99,111,100,101,69,110,99,111,100,101,69,114,114,111,114]) 148 (.type SL.s17586630440231065808x18)),(de P (u [85,110,105,99,111,100,101,84,114,97,110,115,108,97,116,101,69,114,114,111,114]) 149 (.type SL.s15234114252648025395x21)),(de P (u [69,120,99,101,112,116,105,111,110,71,114,111,117,112]) 150 (.type SL.s8496462677383758984x14)),(de P (u [69,110,118,105,114,111,110,109,101,110,116,69,114,114,111,114]) 151 (.type SL.s10852414792293593619x7)),(de P (u [73,79,69,114,114,111,114]) 152 (.type SL.s10852414792293593619x7)),(de P (u [111,112,101,110]) 153 (.builtin SL.s16789243406116112673x4)),(de P (u [113,117,105,116]) 154 (.builtin SL.s14400166428656793546x20)),(de P (u [101,120,105,116]) 155 (.builtin SL.s5857708277339239366x20)),(de P (u [99,111,112,121,114,105,103,104,116]) 156 (.builtin "builtins.copyright#opaque")),(de P (u [99,114,101,100,105,116,115]) 157 (.builtin "builtins.credits#opaque")),(de P (u [108,105,99,101,110,115,101]) 158 (.builtin "builtins.license#opaque")),(de P (u [104,101,108,112]) 159 (.builtin SL.s7804999707787243718x20))]⟩ 159,⟨[]⟩⟩
noncomputable def o2(P:Params):Obj:=⟨.none,none,.dict ⟨[(de P (u [105,109,112,111,114,116,46,108,111,97,100,101,100,46,95,115,114,101]) 183 (.bool true)),(de P (u [99,108,97,115,115,46,95,102,114,111,122,101,110,95,105,109,112,111,114,116,108,105,98,46,66,117,105,108,116,105,110,73,109,112,111,114,116,101,114]) 185 (.ref 14)),(de P (u [119,97,116,99,104,101,100,46,105,109,112,111,114,116]) 206 (.ref 18)),(de P (u [99,108,97,115,115,46,95,102,114,111,122,101,110,95,105,109,112,111,114,116,108,105,98,46,77,111,100,117,108,101,83,112,101,99]) 216 (.ref 22)),(de P (u [115,121,115,46,109,111,100,117,108,101,115,46,98,111,111,107,101,100,45,101,112,111,99,104]) 245 (.int 4 0)),(de P (u [105,109,112,111,114,116,46,108,97,116,101,114,45,108,97,105,100,46,95,115,114,101]) 270 (.bool true)),(de P (u [119,97,116,99,104,101,100,46,108,105,98,114,97,114,121]) 272 (.ref 27)),(de P (u [119,97,116,99,104,101,100,46,108,105,98,114,97,114,121,45,111,98,106,101,99,116,115]) 0 (.str (u [12,30]) 0)),(de P (u [119,97,116,99,104,101,100,46,108,105,98,114,97,114,121,45,100,101,101,112,46,95,115,114,101]) 273 (.str (u [4,0,0,11,4,0,0,11,4,0,0,3,4,0,0,11,8,4,100,105,99,116,2]) 0)),(de P (u [105,109,112,111,114,116,46,108,111,97,100,101,100,46,95,99,111,108,108,101,99,116,105,111,110,115]) 280 (.bool true)),(de P (u [115,121,115,46,109,111,100,117,108,101,115,46,108,97,110,100,101,100,46,95,99,111,108,108,101,99,116,105,111,110,115]) 294 (.bool true)),(de P (u [105,109,112,111,114,116,46,108,97,116,101,114,45,108,97,105,100,46,95,99,111,108,108,101,99,116,105,111,110,115]) 309 (.bool true)),(de P (u [119,97,116,99,104,101,100,46,108,105,98,114,97,114,121,45,100,101,101,112,46,95,99,111,108,108,101,99,116,105,111,110,115]) 311 (.str (u [4,0,0,29,4,0,0,29,4,0,0,3,4,0,0,29,8,4,100,105,99,116,2]) 0)),(de P (u [116,121,112,101,46,95,95,115,117,98,99,108,97,115,115,101,115,95,95,46,79,83,69,114,114,111,114,46,48]) 602 (.int 200 0)),(de P (u [116,121,112,101,46,95,95,115,117,98,99,108,97,115,115,101,115,95,95,46,79,83,69,114,114,111,114,46,110]) 603 (.int 1 0))]⟩ 15,⟨[]⟩⟩
noncomputable def o3(P:Params):Obj:=⟨(.type SL.s14018661285674007319x4),none,.dict ⟨[(de P EC 165 (.str v4 1450)),(de P v3 166 .none),(de P ED 167 .none),(de P EE 168 (.builtin SL.s7097527257260152453x26)),(de P EF 169 .none),(de P (u [95,95,97,110,110,111,116,97,116,105,111,110,115,95,95]) 170 (.ref 6)),(de P (u [95,95,98,117,105,108,116,105,110,115,95,95]) 171 (.ref 4)),(de P (u [95,95,102,105,108,101,95,95]) 173 (.str U0 172)),(de P (u [95,95,99,97,99,104,101,100,95,95]) 174 .none),(de P (u [95,115,114,101]) 275 (.ref 12)),(de P (u [100,101,113,117,101]) 317 (.type SL.s5314052453082223887x17)),(de P (u [95,119,97,108,108]) 330 (.ref 44)),(de P Au 343 (.ref 51)),(de P (u [95,78,79,68,69,95,79,85,84]) 348 (.int (-1) 347)),(de P (u [95,78,79,68,69,95,68,79,78,69]) 351 (.int (-2) 350)),(de P Av 388 (.ref 70)),(de P Aw 406 (.ref 85)),(de P Ax 525 (.ref 167)),(de P (u [95,116,119,105,110,95,114,101,95,49]) 565 (.ref 176)),(de P (u [95,119,104,101,110,99,101]) 575 (.ref 183)),(de P Ay 583 (.ref 190)),(de P (u [85,110,115,117,112,112,111,114,116,101,100,79,112,101,114,97,116,105,111,110]) 605 (.ref 200)),(de P Az 637 (.ref 220)),(de P (u [66,117,102,102,101,114,101,100,73,79,66,97,115,101]) 655 (.ref 235)),(de P AA 673 (.ref 247)),(de P AB 935 (.ref 477)),(de P AC 1222 (.ref 724)),(de P (u [95,107,105,110,100]) 1233 (.ref 733)),(de P (u [95,102,115,112,97,116,104]) 1242 (.ref 740)),(de P (u [95,99,104,101,99,107,95,97,114,103,95,116,121,112,101,115]) 1252 (.ref 747)),(de P (u [105,115,97,98,115]) 1259 (.ref 754)),(de P AD 1270 (.ref 878)),(de P (u [106,111,105,110,95,112,97,116,104]) 1271 (.ref 761)),(de P (u [100,105,114,110,97,109,101]) 1281 (.ref 768)),(de P AE 1422 (.ref 859)),(de P AF 1432 (.ref 871)),(de P (u [106,111,105,110,95,115,104,108,101,120]) 1440 (.ref 878)),(de P (u [95,102,105,110,100,95,117,110,115,97,102,101]) 1442 (.ref 879)),(de P AG 1449 (.ref 886)),(de P AH 1461 (.ref 893)),(de P AI 1468 (.ref 900)),(de P AJ 1474 (.ref 905)),(de P AK 1483 (.ref 912)),(de P AL 1490 (.ref 919)),(de P AM 1499 (.ref 926)),(de P AO 1505 (.ref 931)),(de P AP 1511 (.ref 936))]⟩ 47,⟨[]⟩⟩
noncomputable def o4(P:Params):Obj:=⟨(.type SL.s6658869562736209489x6),(some 0),.plain,⟨[]⟩⟩
noncomputable def Ft(P:Params):Obj:=⟨(.type SL.s5856160107412720595x4),none,.fields ⟨[(.str Au 333),(.str Au 334),(.str U0 335),(.int 7 0),(.int 2 0),(.int 0 0),(.int 0 0),(.int 3 0),(.ref 45),(.bool true),(.int 318 0),(.ref 46),.none,(.ref 47),(.ref 48),(.ref 49),(.int 341 0),(.int 7 0),(.str U0 342)]⟩,⟨[]⟩⟩
noncomputable def DE(P:Params):Obj:=⟨(.type SL.s7174869446012820540x8),none,.func {name:=Au,qualname:=Au,params:=aF (aj 4),body:=.stmts (aE (aj 4)),scope:=aX (aj 4),globals:=3,closure:=[],defaults:=.none,kwdefaults:=.none,doc:=.none,pyModule:=(.str (u [99,112,121,51,49,51,46,119,97,118,101]) 331),annotations:=none,code:=(.ref 50),closureTuple:=.none,builtins:=0},⟨[]⟩⟩
noncomputable def Fu(P:Params):Obj:=⟨(.type SL.s5856160107412720595x4),none,.fields ⟨[(.str U4 368),(.str EG 369),(.str U0 370),(.int 19 0),(.int 2 0),(.int 0 0),(.int 0 0),(.int 3 0),(.ref 60),(.bool true),(.int 318 0),(.ref 61),.none,(.ref 62),(.ref 63),(.ref 64),(.int 373 0),(.int 19 0),(.str U0 374)]⟩,⟨[]⟩⟩
noncomputable def Fv(P:Params):Obj:=⟨(.type SL.s7174869446012820540x8),none,.func {name:=U4,qualname:=EG,params:=aF (az (aj 8) 1),body:=.stmts (aE (az (aj 8) 1)),scope:=aX (az (aj 8) 1),globals:=3,closure:=[],defaults:=.none,kwdefaults:=.none,doc:=.none,pyModule:=(.str U5 344),annotations:=none,code:=(.ref 65),closureTuple:=.none,builtins:=0},⟨[]⟩⟩
noncomputable def Fw(P:Params):Obj:=⟨(.type SL.s14018661285674007319x4),none,.dict ⟨[(de P yM 359 (.str U5 344)),(de P yN 363 (.int 16 362)),(de P (u [95,95,115,108,111,116,115,95,95]) 367 (.ref 59)),(de P U4 375 (.ref 66)),(de P yO 379 (.ref 67)),(de P yP 381 (.ref 71)),(de P Cz 383 (.ref 72)),(de P CA 385 (.ref 73)),(de P v3 386 .none)]⟩ 5,⟨[]⟩⟩
noncomputable def Fx(P:Params):Obj:=⟨(.type SL.s17162191345867700912x4),none,.cls {name:=Av,bases:=[(.type SL.s2742458400755230247x6)],mro:=[(.ref 70),(.type SL.s2742458400755230247x6)],ns:=69,qualname:=Av,hasDict:=false,slotNames:=[yP,Cz,CA],subclasses:=[],abstract:=false,collection:=none,hasDel:=false},⟨[none,none,(some (.str Av 352)),(some (.str Av 360)),(some (.builtin SL.s11443829558043349243x14)),(some (.bool false))]⟩⟩
noncomputable def Fy(P:Params):Obj:=⟨(.type SL.s5699418376593618685x17),none,.fields ⟨[(.str yP 380),(.ref 70),(.builtin SL.s6779124196712981104x10),(.builtin SL.s2924395122027826103x14),(.int 2 0)]⟩,⟨[]⟩⟩
noncomputable def Fz(P:Params):Obj:=⟨(.type SL.s5699418376593618685x17),none,.fields ⟨[(.str Cz 382),(.ref 70),(.builtin SL.s6779124196712981104x10),(.builtin SL.s2924395122027826103x14),(.int 1 0)]⟩,⟨[]⟩⟩
noncomputable def FA(P:Params):Obj:=⟨(.type SL.s5699418376593618685x17),none,.fields ⟨[(.str CA 384),(.ref 70),(.builtin SL.s6779124196712981104x10),(.builtin SL.s2924395122027826103x14),(.int 0 0)]⟩,⟨[]⟩⟩
noncomputable def FC(P:Params):Obj:=⟨(.type SL.s14018661285674007319x4),none,.dict ⟨[(de P yM 396 (.str U5 344)),(de P yN 400 (.int 23 399)),(de P yO 401 (.ref 83)),(de P Cb 403 (.ref 86)),(de P v3 404 .none)]⟩ 3,⟨[]⟩⟩
noncomputable def FD(P:Params):Obj:=⟨(.type SL.s17162191345867700912x4),none,.cls {name:=Aw,bases:=[(.type SL.s6070975301684473832x10)],mro:=[(.ref 85),(.type SL.s6070975301684473832x10),(.type SL.s5946037652744460706x9),(.type SL.s4278001404047624695x13),(.type SL.s2742458400755230247x6)],ns:=84,qualname:=Aw,hasDict:=true,slotNames:=[],subclasses:=[],abstract:=false,collection:=none,hasDel:=false},⟨[(some (.ref 76)),none,(some (.str Aw 389)),(some (.str Aw 397)),(some (.builtin SL.s4209523147560561109x18)),(some (.bool true))]⟩⟩
noncomputable def FE(P:Params):Obj:=⟨(.type SL.s2766695959194262286x5),none,.seq #[.none] 0,⟨[]⟩⟩
noncomputable def C5(P:Params):Obj:=⟨(.type SL.s5856160107412720595x4),none,.fields ⟨[(.str U4 419),(.str EH 420),(.str U0 421),(.int 27 0),(.int 2 0),(.int 0 0),(.int 0 0),(.int 3 0),(.ref 97),(.bool true),(.int 318 0),(.ref 98),.none,(.ref 99),(.ref 100),(.ref 101),(.int 426 0),(.int 27 0),(.str U0 427)]⟩,⟨[]⟩⟩
noncomputable def C6(P:Params):Obj:=⟨(.type SL.s7174869446012820540x8),none,.func {name:=U4,qualname:=EH,params:=aF (az (aj 10) 0),body:=.stmts (aE (az (aj 10) 0)),scope:=aX (az (aj 10) 0),globals:=3,closure:=[],defaults:=(.ref 96),kwdefaults:=.none,doc:=.none,pyModule:=(.str U5 344),annotations:=none,code:=(.ref 102),closureTuple:=.none,builtins:=0},⟨[]⟩⟩
noncomputable def C7(P:Params):Obj:=⟨(.type SL.s5856160107412720595x4),none,.fields ⟨[(.str CB 429),(.str EI 430),(.str U0 431),(.int 36 0),(.int 2 0),(.int 0 0),(.int 0 0),(.int 3 0),(.ref 104),(.bool true),(.int 318 0),(.ref 105),.none,(.ref 106),(.ref 107),(.ref 108),(.int 435 0),(.int 36 0),(.str U0 436)]⟩,⟨[]⟩⟩
noncomputable def C8(P:Params):Obj:=⟨(.type SL.s7174869446012820540x8),none,.func {name:=CB,qualname:=EI,params:=aF (az (aj 10) 1),body:=.stmts (aE (az (aj 10) 1)),scope:=aX (az (aj 10) 1),globals:=3,closure:=[],defaults:=.none,kwdefaults:=.none,doc:=.none,pyModule:=(.str U5 344),annotations:=none,code:=(.ref 109),closureTuple:=.none,builtins:=0},⟨[]⟩⟩
noncomputable def C9(P:Params):Obj:=⟨(.type SL.s5856160107412720595x4),none,.fields ⟨[(.str (u [97,100,100]) 438),(.str EJ 439),(.str U0 440),(.int 41 0),(.int 2 0),(.int 0 0),(.int 0 0),(.int 7 0),(.ref 111),(.bool true),(.int 318 0),(.ref 112),.none,(.ref 113),(.ref 114),(.ref 115),(.int 447 0),(.int 41 0),(.str U0 448)]⟩,⟨[]⟩⟩
noncomputable def Da(P:Params):Obj:=⟨(.type SL.s7174869446012820540x8),none,.func {name:=(u [97,100,100]),qualname:=EJ,params:=aF (az (aj 10) 2),body:=.stmts (aE (az (aj 10) 2)),scope:=aX (az (aj 10) 2),globals:=3,closure:=[],defaults:=.none,kwdefaults:=.none,doc:=.none,pyModule:=(.str U5 344),annotations:=none,code:=(.ref 116),closureTuple:=.none,builtins:=0},⟨[]⟩⟩
noncomputable def Db(P:Params):Obj:=⟨(.type SL.s5856160107412720595x4),none,.fields ⟨[(.str CC 450),(.str EK 451),(.str U0 452),(.int 50 0),(.int 1 0),(.int 0 0),(.int 0 0),(.int 3 0),(.ref 118),(.bool true),(.int 318 0),(.ref 119),.none,.none,.none,(.ref 120),(.int 453 0),(.int 50 0),(.str U0 454)]⟩,⟨[]⟩⟩
noncomputable def sm(P:Params):Obj:=⟨(.type SL.s7174869446012820540x8),none,.func {name:=CC,qualname:=EK,params:=aF (az (aj 10) 3),body:=.stmts (aE (az (aj 10) 3)),scope:=aX (az (aj 10) 3),globals:=3,closure:=[],defaults:=.none,kwdefaults:=.none,doc:=.none,pyModule:=(.str U5 344),annotations:=none,code:=(.ref 121),closureTuple:=.none,builtins:=0},⟨[]⟩⟩
noncomputable def Dc(P:Params):Obj:=⟨(.type SL.s5856160107412720595x4),none,.fields ⟨[(.str CD 456),(.str EL 457),(.str U0 458),(.int 58 0),(.int 1 0),(.int 0 0),(.int 0 0),(.int 3 0),(.ref 123),(.bool true),(.int 318 0),(.ref 124),.none,(.ref 125),(.ref 126),(.ref 127),(.int 463 0),(.int 58 0),(.str U0 464)]⟩,⟨[]⟩⟩
noncomputable def BC(P:Params):Obj:=⟨(.type SL.s7174869446012820540x8),none,.func {name:=CD,qualname:=EL,params:=aF (az (aj 10) 4),body:=.stmts (aE (az (aj 10) 4)),scope:=aX (az (aj 10) 4),globals:=3,closure:=[],defaults:=.none,kwdefaults:=.none,doc:=.none,pyModule:=(.str U5 344),annotations:=none,code:=(.ref 128),closureTuple:=.none,builtins:=0},⟨[]⟩⟩
noncomputable def Dd(P:Params):Obj:=⟨(.type SL.s5856160107412720595x4),none,.fields ⟨[(.str CE 466),(.str EM 467),(.str U0 468),(.int 69 0),(.int 1 0),(.int 0 0),(.int 0 0),(.int 3 0),(.ref 130),(.bool true),(.int 318 0),(.ref 131),.none,(.ref 132),(.ref 133),(.ref 134),(.int 470 0),(.int 69 0),(.str U0 471)]⟩,⟨[]⟩⟩
noncomputable def De(P:Params):Obj:=⟨(.type SL.s7174869446012820540x8),none,.func {name:=CE,qualname:=EM,params:=aF (az (aj 10) 5),body:=.stmts (aE (az (aj 10) 5)),scope:=aX (az (aj 10) 5),globals:=3,closure:=[],defaults:=.none,kwdefaults:=.none,doc:=.none,pyModule:=(.str U5 344),annotations:=none,code:=(.ref 135),closureTuple:=.none,builtins:=0},⟨[]⟩⟩
noncomputable def Df(P:Params):Obj:=⟨(.type SL.s5856160107412720595x4),none,.fields ⟨[(.str CF 480),(.str EN 481),(.str U0 482),(.int 77 0),(.int 1 0),(.int 0 0),(.int 0 0),(.int 7 0),(.ref 144),(.bool true),(.int 318 0),(.ref 145),.none,(.ref 146),(.ref 147),(.ref 148),(.int 491 0),(.int 77 0),(.str U0 492)]⟩,⟨[]⟩⟩
noncomputable def zs(P:Params):Obj:=⟨(.type SL.s7174869446012820540x8),none,.func {name:=CF,qualname:=EN,params:=aF (az (aj 10) 7),body:=.stmts (aE (az (aj 10) 7)),scope:=aX (az (aj 10) 7),globals:=3,closure:=[],defaults:=.none,kwdefaults:=.none,doc:=.none,pyModule:=(.str U5 344),annotations:=none,code:=(.ref 149),closureTuple:=.none,builtins:=0},⟨[]⟩⟩
noncomputable def Dg(P:Params):Obj:=⟨(.type SL.s5856160107412720595x4),none,.fields ⟨[(.str CG 494),(.str EO 495),(.str U0 496),(.int 100 0),(.int 1 0),(.int 0 0),(.int 0 0),(.int 3 0),(.ref 151),(.bool true),(.int 318 0),(.ref 152),.none,(.ref 153),(.ref 154),(.ref 155),(.int 504 0),(.int 100 0),(.str U0 505)]⟩,⟨[]⟩⟩
noncomputable def BD(P:Params):Obj:=⟨(.type SL.s7174869446012820540x8),none,.func {name:=CG,qualname:=EO,params:=aF (az (aj 10) 8),body:=.stmts (aE (az (aj 10) 8)),scope:=aX (az (aj 10) 8),globals:=3,closure:=[],defaults:=.none,kwdefaults:=.none,doc:=.none,pyModule:=(.str U5 344),annotations:=none,code:=(.ref 156),closureTuple:=.none,builtins:=0},⟨[]⟩⟩
noncomputable def Dh(P:Params):Obj:=⟨(.type SL.s14018661285674007319x4),none,.dict ⟨[(de P yM 414 (.str U5 344)),(de P yN 418 (.int 25 417)),(de P U4 428 (.ref 103)),(de P CB 437 (.ref 110)),(de P (u [97,100,100]) 449 (.ref 117)),(de P CC 455 (.ref 122)),(de P CD 465 (.ref 129)),(de P CE 472 (.ref 136)),(de P (u [95,95,98,111,111,108,95,95]) 479 (.ref 143)),(de P CF 493 (.ref 150)),(de P CG 506 (.ref 157)),(de P (u [115,116,97,116,105,99,95,111,114,100,101,114]) 513 (.ref 164)),(de P yO 518 (.ref 165)),(de P CH 520 (.ref 168)),(de P Cb 522 (.ref 169)),(de P v3 523 .none)]⟩ 4,⟨[]⟩⟩
noncomputable def Di(P:Params):Obj:=⟨(.type SL.s17162191345867700912x4),none,.cls {name:=Ax,bases:=[(.type SL.s2742458400755230247x6)],mro:=[(.ref 167),(.type SL.s2742458400755230247x6)],ns:=166,qualname:=Ax,hasDict:=true,slotNames:=[],subclasses:=[],abstract:=false,collection:=none,hasDel:=false},⟨[none,none,(some (.str Ax 407)),(some (.str Ax 415)),(some (.builtin SL.s11443829558043349243x14)),(some (.bool true))]⟩⟩
noncomputable def Dj(P:Params):Obj:=⟨(.type SL.s2766695959194262286x5),none,.seq #[(.int 14 0),(.int 17 0),(.int 4 0),(.int 1 0),(.int 1 0),(.int 21 0),(.int 9 0),(.int 0 0),(.int 604043296 0),(.int 1 0),(.int 0 0),(.int 0 0),(.int 0 0),(.int 0 0),(.int 0 0),(.int 8 0),(.int 4 0),(.int 0 0),(.int 13 0),(.int 14 0),(.int 21 0),(.int 9 0),(.int 0 0),(.int 604043296 0),(.int 1 0),(.int 0 0),(.int 0 0),(.int 0 0),(.int 0 0),(.int 0 0),(.int 8 0),(.int 4 0),(.int 0 0),(.int 1 0)] 0,⟨[]⟩⟩
noncomputable def Dk(P:Params):Obj:=⟨(.type SL.s12171344214640291687x10),none,.fields ⟨[(.str (u [91,94,92,119,64,37,43,61,58,44,46,47,45,93]) 527),(.int 256 564),(.int 0 0),.none,.none,(.ref 175),(.int 0 0)]⟩,⟨[]⟩⟩
noncomputable def Dl(P:Params):Obj:=⟨(.type SL.s5856160107412720595x4),none,.fields ⟨[(.str Ay 576),(.str Ay 577),(.str U0 578),(.int 138 0),(.int 2 0),(.int 0 0),(.int 0 0),(.int 3 0),(.ref 184),(.bool true),(.int 318 0),(.ref 185),.none,(.ref 186),(.ref 187),(.ref 188),(.int 581 0),(.int 138 0),(.str U0 582)]⟩,⟨[]⟩⟩
noncomputable def Dm(P:Params):Obj:=⟨(.type SL.s7174869446012820540x8),none,.func {name:=Ay,qualname:=Ay,params:=aF (aj 14),body:=.stmts (aE (aj 14)),scope:=aX (aj 14),globals:=3,closure:=[],defaults:=.none,kwdefaults:=.none,doc:=.none,pyModule:=(.str xX 566),annotations:=none,code:=(.ref 189),closureTuple:=.none,builtins:=0},⟨[]⟩⟩
noncomputable def Do(P:Params):Obj:=⟨(.type SL.s5856160107412720595x4),none,.fields ⟨[(.str CI 620),(.str EP 621),(.str U0 622),(.int 150 0),(.int 1 0),(.int 1 0),(.int 0 0),(.int 15 0),(.ref 211),(.bool true),(.int 318 0),(.ref 212),.none,(.ref 213),(.ref 214),(.ref 215),(.int 626 0),(.int 150 0),(.str U0 627)]⟩,⟨[]⟩⟩
noncomputable def Dp(P:Params):Obj:=⟨(.type SL.s7174869446012820540x8),none,.func {name:=CI,qualname:=EP,params:=aF (az (aj 16) 1),body:=.stmts (aE (az (aj 16) 1)),scope:=aX (az (aj 16) 1),globals:=3,closure:=[],defaults:=.none,kwdefaults:=.none,doc:=.none,pyModule:=(.str xX 566),annotations:=none,code:=(.ref 216),closureTuple:=.none,builtins:=0},⟨[]⟩⟩
noncomputable def Dr(P:Params):Obj:=⟨(.type SL.s14018661285674007319x4),none,.dict ⟨[(de P yM 613 (.str xX 618)),(de P yN 617 (.int 147 616)),(de P CI 628 (.ref 221)),(de P yO 629 (.ref 218)),(de P CH 632 (.ref 222)),(de P Cb 634 (.ref 223)),(de P v3 635 .none)]⟩ 4,⟨[]⟩⟩
noncomputable def Ds(P:Params):Obj:=⟨(.type SL.s17162191345867700912x4),none,.cls {name:=Az,bases:=[(.type SL.s2742458400755230247x6)],mro:=[(.ref 220),(.type SL.s2742458400755230247x6)],ns:=219,qualname:=Az,hasDict:=true,slotNames:=[],subclasses:=[(.ref 235),(.ref 247)],abstract:=false,collection:=none,hasDel:=false},⟨[none,none,(some (.str Az 606)),(some (.str Az 614)),(some .none),(some (.bool true))]⟩⟩
noncomputable def Dt(P:Params):Obj:=⟨(.type SL.s16656946322747308186x12),none,.fields ⟨[(.ref 217)]⟩,⟨[]⟩⟩
noncomputable def Du(P:Params):Obj:=⟨(.type SL.s14018661285674007319x4),none,.dict ⟨[(de P yM 663 (.str xX 668)),(de P yN 667 (.int 156 666)),(de P yO 670 (.ref 245)),(de P v3 671 .none)]⟩ 2,⟨[]⟩⟩
noncomputable def Dv(P:Params):Obj:=⟨(.type SL.s17162191345867700912x4),none,.cls {name:=AA,bases:=[(.ref 220)],mro:=[(.ref 247),(.ref 220),(.type SL.s2742458400755230247x6)],ns:=246,qualname:=AA,hasDict:=true,slotNames:=[],subclasses:=[(.ref 724)],abstract:=false,collection:=none,hasDel:=false},⟨[(some (.ref 238)),none,(some (.str AA 656)),(some (.str AA 664)),(some .none),(some (.bool true))]⟩⟩
noncomputable def Dw(P:Params):Obj:=⟨(.type SL.s17162191345867700912x4),none,.cls {name:=AB,bases:=[(.ref 235)],mro:=[(.ref 477),(.ref 235),(.ref 220),(.type SL.s2742458400755230247x6)],ns:=476,qualname:=AB,hasDict:=true,slotNames:=[],subclasses:=[],abstract:=false,collection:=none,hasDel:=false},⟨[(some (.ref 250)),none,(some (.str AB 674)),(some (.str AB 682)),(some .none),(some (.bool true))]⟩⟩
noncomputable def Dx(P:Params):Obj:=⟨(.type SL.s2766695959194262286x5),none,.seq #[(.str (u []) 950),(.str (u [10]) 951)] 0,⟨[]⟩⟩
noncomputable def Dy(P:Params):Obj:=⟨(.type SL.s5856160107412720595x4),none,.fields ⟨[(.str U4 952),(.str EQ 953),(.str U0 954),(.int 331 0),(.int 3 0),(.int 0 0),(.int 0 0),(.int 3 0),(.ref 488),(.bool true),(.int 318 0),(.ref 489),.none,(.ref 490),(.ref 491),(.ref 492),(.int 958 0),(.int 331 0),(.str U0 959)]⟩,⟨[]⟩⟩
noncomputable def Dz(P:Params):Obj:=⟨(.type SL.s7174869446012820540x8),none,.func {name:=U4,qualname:=EQ,params:=aF (az (aj 20) 1),body:=.stmts (aE (az (aj 20) 1)),scope:=aX (az (aj 20) 1),globals:=3,closure:=[],defaults:=(.ref 487),kwdefaults:=.none,doc:=.none,pyModule:=(.str xX 566),annotations:=none,code:=(.ref 493),closureTuple:=.none,builtins:=0},⟨[]⟩⟩
noncomputable def DA(P:Params):Obj:=⟨(.type SL.s5856160107412720595x4),none,.fields ⟨[(.str ER 961),(.str ES 962),(.str U0 963),(.int 344 0),(.int 2 0),(.int 0 0),(.int 0 0),(.int 3 0),(.ref 495),(.bool true),(.int 318 0),(.ref 496),.none,(.ref 497),(.ref 498),(.ref 499),(.int 967 0),(.int 344 0),(.str U0 968)]⟩,⟨[]⟩⟩
noncomputable def DB(P:Params):Obj:=⟨(.type SL.s7174869446012820540x8),none,.func {name:=ER,qualname:=ES,params:=aF (az (aj 20) 2),body:=.stmts (aE (az (aj 20) 2)),scope:=aX (az (aj 20) 2),globals:=3,closure:=[],defaults:=.none,kwdefaults:=.none,doc:=.none,pyModule:=(.str xX 566),annotations:=none,code:=(.ref 500),closureTuple:=.none,builtins:=0},⟨[]⟩⟩
noncomputable def DC(P:Params):Obj:=⟨(.type SL.s5856160107412720595x4),none,.fields ⟨[(.str (u [95,95,99,104,101,99,107]) 970),(.str ET 971),(.str U0 972),(.int 352 0),(.int 1 0),(.int 0 0),(.int 0 0),(.int 3 0),(.ref 502),(.bool true),(.int 318 0),(.ref 503),.none,(.ref 504),(.ref 505),(.ref 506),(.int 974 0),(.int 352 0),(.str U0 975)]⟩,⟨[]⟩⟩
noncomputable def DD(P:Params):Obj:=⟨(.type SL.s7174869446012820540x8),none,.func {name:=(u [95,95,99,104,101,99,107]),qualname:=ET,params:=aF (az (aj 20) 3),body:=.stmts (aE (az (aj 20) 3)),scope:=aX (az (aj 20) 3),globals:=3,closure:=[],defaults:=.none,kwdefaults:=.none,doc:=.none,pyModule:=(.str xX 566),annotations:=none,code:=(.ref 507),closureTuple:=.none,builtins:=0},⟨[]⟩⟩
noncomputable def DF(P:Params):Obj:=⟨(.type SL.s2766695959194262286x5),none,.seq #[(.int (-1) 1143)] 0,⟨[]⟩⟩
noncomputable def DG(P:Params):Obj:=⟨(.type SL.s5856160107412720595x4),none,.fields ⟨[(.str AQ 1144),(.str EU 1145),(.str U0 1146),(.int 474 0),(.int 2 0),(.int 2 0),(.int 0 0),(.int 3 0),(.ref 664),(.bool true),(.int 318 0),(.ref 665),.none,(.ref 666),(.ref 667),(.ref 668),(.int 1151 0),(.int 474 0),(.str U0 1152)]⟩,⟨[]⟩⟩
noncomputable def DH(P:Params):Obj:=⟨(.type SL.s7174869446012820540x8),none,.func {name:=AQ,qualname:=EU,params:=aF (az (aj 20) 25),body:=.stmts (aE (az (aj 20) 25)),scope:=aX (az (aj 20) 25),globals:=3,closure:=[],defaults:=(.ref 663),kwdefaults:=.none,doc:=.none,pyModule:=(.str xX 566),annotations:=none,code:=(.ref 669),closureTuple:=.none,builtins:=0},⟨[]⟩⟩
noncomputable def DI(P:Params):Obj:=⟨(.type SL.s14018661285674007319x4),none,.dict ⟨[(de P yM 943 (.str (u [95,105,111]) 948)),(de P yN 947 (.int 328 946)),(de P U4 960 (.ref 494)),(de P (u [95,83,116,114,105,110,103,73,79,95,95,116,114,97,110,115,108,97,116,101,100]) 969 (.ref 501)),(de P (u [95,83,116,114,105,110,103,73,79,95,95,99,104,101,99,107]) 976 (.ref 508)),(de P (u [95,83,116,114,105,110,103,73,79,95,95,99,104,101,99,107,95,100,111,116]) 983 (.ref 515)),(de P (u [95,83,116,114,105,110,103,73,79,95,95,108,105,110,101]) 998 (.ref 522)),(de P (u [99,108,111,115,101,100]) 1006 (.ref 530)),(de P (u [108,105,110,101,95,98,117,102,102,101,114,105,110,103]) 1014 (.ref 538)),(de P (u [110,101,119,108,105,110,101,115]) 1022 (.ref 546)),(de P (u [101,110,99,111,100,105,110,103]) 1030 (.ref 554)),(de P (u [101,114,114,111,114,115]) 1038 (.ref 562)),(de P (u [99,108,111,115,101]) 1045 (.ref 569)),(de P (u [95,95,101,110,116,101,114,95,95]) 1052 (.ref 576)),(de P (u [95,95,101,120,105,116,95,95]) 1060 (.ref 583)),(de P (u [114,101,97,100,97,98,108,101]) 1067 (.ref 590)),(de P (u [119,114,105,116,97,98,108,101]) 1074 (.ref 597)),(de P (u [115,101,101,107,97,98,108,101]) 1081 (.ref 604)),(de P (u [105,115,97,116,116,121]) 1088 (.ref 611)),(de P (u [102,108,117,115,104]) 1095 (.ref 618)),(de P (u [102,105,108,101,110,111]) 1102 (.ref 625)),(de P (u [100,101,116,97,99,104]) 1109 (.ref 632)),(de P (u [103,101,116,118,97,108,117,101]) 1116 (.ref 639)),(de P (u [116,101,108,108]) 1123 (.ref 646)),(de P (u [115,101,101,107]) 1133 (.ref 654)),(de P (u [116,114,117,110,99,97,116,101]) 1141 (.ref 662)),(de P AQ 1153 (.ref 670)),(de P (u [114,101,97,100,108,105,110,101]) 1163 (.ref 678)),(de P (u [114,101,97,100,108,105,110,101,115]) 1173 (.ref 686)),(de P Cc 1180 (.ref 693)),(de P Cd 1188 (.ref 700)),(de P (u [119,114,105,116,101]) 1200 (.ref 707)),(de P (u [119,114,105,116,101,108,105,110,101,115]) 1208 (.ref 714)),(de P (u [95,95,114,101,112,114,95,95]) 1215 (.ref 721)),(de P yO 1219 (.ref 722)),(de P v3 1220 .none)]⟩ 2,⟨[]⟩⟩
noncomputable def DJ(P:Params):Obj:=⟨(.type SL.s17162191345867700912x4),none,.cls {name:=AC,bases:=[(.ref 247)],mro:=[(.ref 724),(.ref 247),(.ref 220),(.type SL.s2742458400755230247x6)],ns:=723,qualname:=AC,hasDict:=true,slotNames:=[],subclasses:=[],abstract:=false,collection:=none,hasDel:=false},⟨[(some (.ref 480)),none,(some (.str AC 936)),(some (.str AC 944)),(some .none),(some (.bool true))]⟩⟩
noncomputable def DK(P:Params):Obj:=⟨(.type SL.s2766695959194262286x5),none,.seq #[.none,.none,(.bool false),(.bool false)] 0,⟨[]⟩⟩
noncomputable def DM(P:Params):Obj:=⟨(.type SL.s5856160107412720595x4),none,.fields ⟨[(.str U4 1296),(.str EV 1297),(.str U0 1298),(.int 600 0),(.int 5 0),(.int 0 0),(.int 0 0),(.int 3 0),(.ref 777),(.bool true),(.int 318 0),(.ref 778),.none,(.ref 779),(.ref 780),(.ref 781),(.int 1305 0),(.int 600 0),(.str U0 1306)]⟩,⟨[]⟩⟩
noncomputable def DN(P:Params):Obj:=⟨(.type SL.s7174869446012820540x8),none,.func {name:=U4,qualname:=EV,params:=aF (az (aj 30) 0),body:=.stmts (aE (az (aj 30) 0)),scope:=aX (az (aj 30) 0),globals:=3,closure:=[],defaults:=(.ref 776),kwdefaults:=.none,doc:=.none,pyModule:=(.str U8 1282),annotations:=none,code:=(.ref 782),closureTuple:=.none,builtins:=0},⟨[]⟩⟩
noncomputable def DO(P:Params):Obj:=⟨(.type SL.s5856160107412720595x4),none,.fields ⟨[(.str Ce 1308),(.str EW 1309),(.str U0 1310),(.int 641 0),(.int 1 0),(.int 0 0),(.int 0 0),(.int 3 0),(.ref 784),(.bool true),(.int 318 0),(.ref 785),.none,(.ref 786),(.ref 787),(.ref 788),(.int 1312 0),(.int 641 0),(.str U0 1313)]⟩,⟨[]⟩⟩
noncomputable def DP(P:Params):Obj:=⟨(.type SL.s7174869446012820540x8),none,.func {name:=Ce,qualname:=EW,params:=aF (az (aj 30) 1),body:=.stmts (aE (az (aj 30) 1)),scope:=aX (az (aj 30) 1),globals:=3,closure:=[],defaults:=.none,kwdefaults:=.none,doc:=.none,pyModule:=(.str U8 1282),annotations:=none,code:=(.ref 789),closureTuple:=.none,builtins:=0},⟨[]⟩⟩
noncomputable def DQ(P:Params):Obj:=⟨(.type SL.s8101838861749082086x8),none,.fields ⟨[(.ref 790),.none,.none,.none,(.str Ce 1315),(.bool false)]⟩,⟨[]⟩⟩
noncomputable def DR(P:Params):Obj:=⟨(.type SL.s5856160107412720595x4),none,.fields ⟨[(.str CJ 1340),(.str EX 1341),(.str U0 1342),(.int 668 0),(.int 1 0),(.int 0 0),(.int 0 0),(.int 3 0),(.ref 814),(.bool true),(.int 318 0),(.ref 815),.none,(.ref 816),(.ref 817),(.ref 818),(.int 1349 0),(.int 668 0),(.str U0 1350)]⟩,⟨[]⟩⟩
noncomputable def DS(P:Params):Obj:=⟨(.type SL.s7174869446012820540x8),none,.func {name:=CJ,qualname:=EX,params:=aF (az (aj 30) 5),body:=.stmts (aE (az (aj 30) 5)),scope:=aX (az (aj 30) 5),globals:=3,closure:=[],defaults:=.none,kwdefaults:=.none,doc:=.none,pyModule:=(.str U8 1282),annotations:=none,code:=(.ref 819),closureTuple:=.none,builtins:=0},⟨[]⟩⟩
noncomputable def DT(P:Params):Obj:=⟨(.type SL.s5856160107412720595x4),none,.fields ⟨[(.str CK 1352),(.str EY 1353),(.str U0 1354),(.int 695 0),(.int 1 0),(.int 0 0),(.int 0 0),(.int 3 0),(.ref 821),(.bool true),(.int 318 0),(.ref 822),.none,(.ref 823),(.ref 824),(.ref 825),(.int 1360 0),(.int 695 0),(.str U0 1361)]⟩,⟨[]⟩⟩
noncomputable def BE(P:Params):Obj:=⟨(.type SL.s7174869446012820540x8),none,.func {name:=CK,qualname:=EY,params:=aF (az (aj 30) 6),body:=.stmts (aE (az (aj 30) 6)),scope:=aX (az (aj 30) 6),globals:=3,closure:=[],defaults:=.none,kwdefaults:=.none,doc:=.none,pyModule:=(.str U8 1282),annotations:=none,code:=(.ref 826),closureTuple:=.none,builtins:=0},⟨[]⟩⟩
noncomputable def DU(P:Params):Obj:=⟨(.type SL.s5856160107412720595x4),none,.fields ⟨[(.str Cc 1380),(.str EZ 1381),(.str U0 1382),(.int 842 0),(.int 1 0),(.int 0 0),(.int 0 0),(.int 3 0),(.ref 843),(.bool true),(.int 318 0),(.ref 844),.none,(.ref 845),(.ref 846),(.ref 847),(.int 1384 0),(.int 842 0),(.str U0 1385)]⟩,⟨[]⟩⟩
noncomputable def DV(P:Params):Obj:=⟨(.type SL.s7174869446012820540x8),none,.func {name:=Cc,qualname:=EZ,params:=aF (az (aj 30) 9),body:=.stmts (aE (az (aj 30) 9)),scope:=aX (az (aj 30) 9),globals:=3,closure:=[],defaults:=.none,kwdefaults:=.none,doc:=.none,pyModule:=(.str U8 1282),annotations:=none,code:=(.ref 848),closureTuple:=.none,builtins:=0},⟨[]⟩⟩
noncomputable def DW(P:Params):Obj:=⟨(.type SL.s5856160107412720595x4),none,.fields ⟨[(.str Cd 1387),(.str E0 1388),(.str U0 1389),(.int 845 0),(.int 1 0),(.int 0 0),(.int 0 0),(.int 3 0),(.ref 850),(.bool true),(.int 318 0),(.ref 851),.none,(.ref 852),(.ref 853),(.ref 854),(.int 1392 0),(.int 845 0),(.str U0 1393)]⟩,⟨[]⟩⟩
noncomputable def BF(P:Params):Obj:=⟨(.type SL.s7174869446012820540x8),none,.func {name:=Cd,qualname:=E0,params:=aF (az (aj 30) 10),body:=.stmts (aE (az (aj 30) 10)),scope:=aX (az (aj 30) 10),globals:=3,closure:=[],defaults:=.none,kwdefaults:=.none,doc:=.none,pyModule:=(.str U8 1282),annotations:=none,code:=(.ref 855),closureTuple:=.none,builtins:=0},⟨[]⟩⟩
noncomputable def DX(P:Params):Obj:=⟨(.type SL.s14018661285674007319x4),none,.dict ⟨[(de P yM 1291 (.str U8 1282)),(de P yN 1295 (.int 598 1294)),(de P U4 1307 (.ref 783)),(de P Ce 1315 (.ref 791)),(de P (u [112,117,115,104,95,116,111,107,101,110]) 1323 (.ref 798)),(de P (u [112,117,115,104,95,115,111,117,114,99,101]) 1332 (.ref 806)),(de P (u [112,111,112,95,115,111,117,114,99,101]) 1339 (.ref 813)),(de P CJ 1351 (.ref 820)),(de P CK 1362 (.ref 827)),(de P (u [115,111,117,114,99,101,104,111,111,107]) 1370 (.ref 834)),(de P (u [101,114,114,111,114,95,108,101,97,100,101,114]) 1379 (.ref 842)),(de P Cc 1386 (.ref 849)),(de P Cd 1394 (.ref 856)),(de P yO 1415 (.ref 857)),(de P CH 1417 (.ref 860)),(de P Cb 1419 (.ref 861)),(de P v3 1420 .none)]⟩ 4,⟨[]⟩⟩
noncomputable def DY(P:Params):Obj:=⟨(.type SL.s17162191345867700912x4),none,.cls {name:=AE,bases:=[(.type SL.s2742458400755230247x6)],mro:=[(.ref 859),(.type SL.s2742458400755230247x6)],ns:=858,qualname:=AE,hasDict:=true,slotNames:=[],subclasses:=[],abstract:=false,collection:=none,hasDel:=false},⟨[none,none,(some (.str AE 1284)),(some (.str AE 1292)),(some (.builtin SL.s11443829558043349243x14)),(some (.bool true))]⟩⟩
noncomputable def DZ(P:Params):Obj:=⟨(.type SL.s2766695959194262286x5),none,.seq #[(.bool false),(.bool true)] 0,⟨[]⟩⟩
noncomputable def D0(P:Params):Obj:=⟨(.type SL.s5856160107412720595x4),none,.fields ⟨[(.str AF 1423),(.str AF 1424),(.str U0 1425),(.int 850 0),(.int 3 0),(.int 0 0),(.int 0 0),(.int 3 0),(.ref 865),(.bool true),(.int 318 0),(.ref 866),.none,(.ref 867),(.ref 868),(.ref 869),(.int 1430 0),(.int 850 0),(.str U0 1431)]⟩,⟨[]⟩⟩
noncomputable def BG(P:Params):Obj:=⟨(.type SL.s7174869446012820540x8),none,.func {name:=AF,qualname:=AF,params:=aF (aj 31),body:=.stmts (aE (aj 31)),scope:=aX (aj 31),globals:=3,closure:=[],defaults:=(.ref 864),kwdefaults:=.none,doc:=.none,pyModule:=(.str U8 1282),annotations:=none,code:=(.ref 870),closureTuple:=.none,builtins:=0},⟨[]⟩⟩
noncomputable def oH(P:Params):Obj:=⟨.none,none,.fields ⟨[]⟩,⟨[]⟩⟩
noncomputable def BH(P:Params):Obj:=⟨(.type SL.s5856160107412720595x4),none,.fields ⟨[(.str AD 1433),(.str AD 1434),(.str U0 1435),(.int 858 0),(.int 1 0),(.int 0 0),(.int 0 0),(.int 3 0),(.ref 872),(.bool true),(.int 318 0),(.ref 873),.none,(.ref 874),(.ref 875),(.ref 876),(.int 1437 0),(.int 858 0),(.str U0 1438)]⟩,⟨[]⟩⟩
noncomputable def xa(P:Params):Obj:=⟨(.type SL.s7174869446012820540x8),none,.func {name:=AD,qualname:=AD,params:=aF (aj 32),body:=.stmts (aE (aj 32)),scope:=aX (aj 32),globals:=3,closure:=[],defaults:=.none,kwdefaults:=.none,doc:=.none,pyModule:=(.str U8 1282),annotations:=none,code:=(.ref 877),closureTuple:=.none,builtins:=0},⟨[]⟩⟩
noncomputable def D1(P:Params):Obj:=⟨(.type SL.s11030030927630378310x26),none,.fields ⟨[(.builtin SL.s9858327723941210770x17),(.ref 176)]⟩,⟨[]⟩⟩
noncomputable def D2(P:Params):Obj:=⟨(.type SL.s5856160107412720595x4),none,.fields ⟨[(.str AG 1443),(.str AG 1444),(.str U0 1445),(.int 862 0),(.int 1 0),(.int 0 0),(.int 0 0),(.int 3 0),(.ref 880),(.bool true),(.int 318 0),(.ref 881),.none,(.ref 882),(.ref 883),(.ref 884),(.int 1447 0),(.int 862 0),(.str U0 1448)]⟩,⟨[]⟩⟩
noncomputable def D3(P:Params):Obj:=⟨(.type SL.s7174869446012820540x8),none,.func {name:=AG,qualname:=AG,params:=aF (aj 35),body:=.stmts (aE (aj 35)),scope:=aX (aj 35),globals:=3,closure:=[],defaults:=.none,kwdefaults:=.none,doc:=.none,pyModule:=(.str U8 1282),annotations:=none,code:=(.ref 885),closureTuple:=.none,builtins:=0},⟨[]⟩⟩
noncomputable def D4(P:Params):Obj:=⟨(.type SL.s5856160107412720595x4),none,.fields ⟨[(.str AH 1452),(.str AH 1453),(.str U0 1454),(.int 869 0),(.int 1 0),(.int 0 0),(.int 0 0),(.int 3 0),(.ref 887),(.bool true),(.int 318 0),(.ref 888),.none,(.ref 889),(.ref 890),(.ref 891),(.int 1459 0),(.int 869 0),(.str U0 1460)]⟩,⟨[]⟩⟩
noncomputable def BI(P:Params):Obj:=⟨(.type SL.s7174869446012820540x8),none,.func {name:=AH,qualname:=AH,params:=aF (aj 37),body:=.stmts (aE (aj 37)),scope:=aX (aj 37),globals:=3,closure:=[],defaults:=.none,kwdefaults:=.none,doc:=.none,pyModule:=(.str v4 1450),annotations:=none,code:=(.ref 892),closureTuple:=.none,builtins:=0},⟨[]⟩⟩
noncomputable def D5(P:Params):Obj:=⟨(.type SL.s5856160107412720595x4),none,.fields ⟨[(.str AI 1462),(.str AI 1463),(.str U0 1464),(.int 875 0),(.int 1 0),(.int 0 0),(.int 0 0),(.int 3 0),(.ref 894),(.bool true),(.int 318 0),(.ref 895),.none,(.ref 896),(.ref 897),(.ref 898),(.int 1466 0),(.int 875 0),(.str U0 1467)]⟩,⟨[]⟩⟩
noncomputable def D6(P:Params):Obj:=⟨(.type SL.s7174869446012820540x8),none,.func {name:=AI,qualname:=AI,params:=aF (aj 38),body:=.stmts (aE (aj 38)),scope:=aX (aj 38),globals:=3,closure:=[],defaults:=.none,kwdefaults:=.none,doc:=.none,pyModule:=(.str v4 1450),annotations:=none,code:=(.ref 899),closureTuple:=.none,builtins:=0},⟨[]⟩⟩
noncomputable def D7(P:Params):Obj:=⟨(.type SL.s5856160107412720595x4),none,.fields ⟨[(.str AJ 1469),(.str AJ 1470),(.str U0 1471),(.int 877 0),(.int 1 0),(.int 0 0),(.int 0 0),(.int 3 0),(.ref 901),(.bool true),(.int 318 0),(.ref 902),.none,.none,.none,(.ref 903),(.int 1472 0),(.int 877 0),(.str U0 1473)]⟩,⟨[]⟩⟩
noncomputable def BJ(P:Params):Obj:=⟨(.type SL.s7174869446012820540x8),none,.func {name:=AJ,qualname:=AJ,params:=aF (aj 39),body:=.stmts (aE (aj 39)),scope:=aX (aj 39),globals:=3,closure:=[],defaults:=.none,kwdefaults:=.none,doc:=.none,pyModule:=(.str v4 1450),annotations:=none,code:=(.ref 904),closureTuple:=.none,builtins:=0},⟨[]⟩⟩
noncomputable def D8(P:Params):Obj:=⟨(.type SL.s5856160107412720595x4),none,.fields ⟨[(.str AK 1475),(.str AK 1476),(.str U0 1477),(.int 882 0),(.int 1 0),(.int 0 0),(.int 0 0),(.int 3 0),(.ref 906),(.bool true),(.int 318 0),(.ref 907),.none,(.ref 908),(.ref 909),(.ref 910),(.int 1481 0),(.int 882 0),(.str U0 1482)]⟩,⟨[]⟩⟩
noncomputable def BK(P:Params):Obj:=⟨(.type SL.s7174869446012820540x8),none,.func {name:=AK,qualname:=AK,params:=aF (aj 40),body:=.stmts (aE (aj 40)),scope:=aX (aj 40),globals:=3,closure:=[],defaults:=.none,kwdefaults:=.none,doc:=.none,pyModule:=(.str v4 1450),annotations:=none,code:=(.ref 911),closureTuple:=.none,builtins:=0},⟨[]⟩⟩
noncomputable def D9(P:Params):Obj:=⟨(.type SL.s5856160107412720595x4),none,.fields ⟨[(.str AL 1484),(.str AL 1485),(.str U0 1486),(.int 887 0),(.int 1 0),(.int 0 0),(.int 0 0),(.int 3 0),(.ref 913),(.bool true),(.int 318 0),(.ref 914),.none,(.ref 915),(.ref 916),(.ref 917),(.int 1488 0),(.int 887 0),(.str U0 1489)]⟩,⟨[]⟩⟩
noncomputable def zt(P:Params):Obj:=⟨(.type SL.s7174869446012820540x8),none,.func {name:=AL,qualname:=AL,params:=aF (aj 41),body:=.stmts (aE (aj 41)),scope:=aX (aj 41),globals:=3,closure:=[],defaults:=.none,kwdefaults:=.none,doc:=.none,pyModule:=(.str v4 1450),annotations:=none,code:=(.ref 918),closureTuple:=.none,builtins:=0},⟨[]⟩⟩
noncomputable def Ea(P:Params):Obj:=⟨(.type SL.s5856160107412720595x4),none,.fields ⟨[(.str AM 1491),(.str AM 1492),(.str U0 1493),(.int 893 0),(.int 1 0),(.int 0 0),(.int 0 0),(.int 3 0),(.ref 920),(.bool true),(.int 318 0),(.ref 921),.none,(.ref 922),(.ref 923),(.ref 924),(.int 1497 0),(.int 893 0),(.str U0 1498)]⟩,⟨[]⟩⟩
noncomputable def xb(P:Params):Obj:=⟨(.type SL.s7174869446012820540x8),none,.func {name:=AM,qualname:=AM,params:=aF (aj 42),body:=.stmts (aE (aj 42)),scope:=aX (aj 42),globals:=3,closure:=[],defaults:=.none,kwdefaults:=.none,doc:=.none,pyModule:=(.str v4 1450),annotations:=none,code:=(.ref 925),closureTuple:=.none,builtins:=0},⟨[]⟩⟩
noncomputable def Eb(P:Params):Obj:=⟨(.type SL.s5856160107412720595x4),none,.fields ⟨[(.str AO 1500),(.str AO 1501),(.str U0 1502),(.int 903 0),(.int 1 0),(.int 0 0),(.int 0 0),(.int 3 0),(.ref 927),(.bool true),(.int 318 0),(.ref 928),.none,.none,.none,(.ref 929),(.int 1503 0),(.int 903 0),(.str U0 1504)]⟩,⟨[]⟩⟩
noncomputable def BL(P:Params):Obj:=⟨(.type SL.s7174869446012820540x8),none,.func {name:=AO,qualname:=AO,params:=aF (aj 43),body:=.stmts (aE (aj 43)),scope:=aX (aj 43),globals:=3,closure:=[],defaults:=.none,kwdefaults:=.none,doc:=.none,pyModule:=(.str v4 1450),annotations:=none,code:=(.ref 930),closureTuple:=.none,builtins:=0},⟨[]⟩⟩
noncomputable def Ec(P:Params):Obj:=⟨(.type SL.s5856160107412720595x4),none,.fields ⟨[(.str AP 1506),(.str AP 1507),(.str U0 1508),(.int 910 0),(.int 1 0),(.int 0 0),(.int 0 0),(.int 3 0),(.ref 932),(.bool true),(.int 318 0),(.ref 933),.none,.none,.none,(.ref 934),(.int 1509 0),(.int 910 0),(.str U0 1510)]⟩,⟨[]⟩⟩
noncomputable def xc(P:Params):Obj:=⟨(.type SL.s7174869446012820540x8),none,.func {name:=AP,qualname:=AP,params:=aF (aj 44),body:=.stmts (aE (aj 44)),scope:=aX (aj 44),globals:=3,closure:=[],defaults:=.none,kwdefaults:=.none,doc:=.none,pyModule:=(.str v4 1450),annotations:=none,code:=(.ref 935),closureTuple:=.none,builtins:=0},⟨[]⟩⟩
noncomputable def eV(P:Params):T2:=(.node 500 (DA P) (.node 128 (Dc P) (.node 73 (FA P) (.node 65 (Fu P) (.node 4 (o4 P) (.node 2 (o2 P) (.node 0 (o0 P) .leaf .leaf) (.node 3 (o3 P) .leaf .leaf)) (.node 51 (DE P) (.node 50 (Ft P) .leaf .leaf) .leaf)) (.node 70 (Fx P) (.node 69 (Fw P) (.node 66 (Fv P) .leaf .leaf) .leaf) (.node 72 (Fz P) (.node 71 (Fy P) .leaf .leaf) .leaf))) (.node 109 (C7 P) (.node 96 (FE P) (.node 85 (FD P) (.node 84 (FC P) .leaf .leaf) .leaf) (.node 103 (C6 P) (.node 102 (C5 P) .leaf .leaf) .leaf)) (.node 117 (Da P) (.node 116 (C9 P) (.node 110 (C8 P) .leaf .leaf) .leaf) (.node 122 (sm P) (.node 121 (Db P) .leaf .leaf) .leaf)))) (.node 190 (Dm P) (.node 157 (BD P) (.node 149 (Df P) (.node 135 (Dd P) (.node 129 (BC P) .leaf .leaf) (.node 136 (De P) .leaf .leaf)) (.node 156 (Dg P) (.node 150 (zs P) .leaf .leaf) .leaf)) (.node 175 (Dj P) (.node 167 (Di P) (.node 166 (Dh P) .leaf .leaf) .leaf) (.node 189 (Dl P) (.node 176 (Dk P) .leaf .leaf) .leaf))) (.node 246 (Du P) (.node 219 (Dr P) (.node 217 (Dp P) (.node 216 (Do P) .leaf .leaf) .leaf) (.node 221 (Dt P) (.node 220 (Ds P) .leaf .leaf) .leaf)) (.node 487 (Dx P) (.node 477 (Dw P) (.node 247 (Dv P) .leaf .leaf) .leaf) (.node 494 (Dz P) (.node 493 (Dy P) .leaf .leaf) .leaf))))) (.node 864 (DZ P) (.node 790 (DP P) (.node 723 (DI P) (.node 663 (DF P) (.node 507 (DC P) (.node 501 (DB P) .leaf .leaf) (.node 508 (DD P) .leaf .leaf)) (.node 670 (DH P) (.node 669 (DG P) .leaf .leaf) .leaf)) (.node 782 (DM P) (.node 776 (DK P) (.node 724 (DJ P) .leaf .leaf) .leaf) (.node 789 (DO P) (.node 783 (DN P) .leaf .leaf) .leaf))) (.node 848 (DU P) (.node 820 (DS P) (.node 819 (DR P) (.node 791 (DQ P) .leaf .leaf) .leaf) (.node 827 (BE P) (.node 826 (DT P) .leaf .leaf) .leaf)) (.node 856 (BF P) (.node 855 (DW P) (.node 849 (DV P) .leaf .leaf) .leaf) (.node 859 (DY P) (.node 858 (DX P) .leaf .leaf) .leaf)))) (.node 904 (D7 P) (.node 885 (D2 P) (.node 877 (BH P) (.node 871 (BG P) (.node 870 (D0 P) .leaf .leaf) .leaf) (.node 879 (D1 P) (.node 878 (xa P) .leaf .leaf) .leaf)) (.node 893 (BI P) (.node 892 (D4 P) (.node 886 (D3 P) .leaf .leaf) .leaf) (.node 900 (D6 P) (.node 899 (D5 P) .leaf .leaf) .leaf))) (.node 925 (Ea P) (.node 912 (BK P) (.node 911 (D8 P) (.node 905 (BJ P) .leaf .leaf) .leaf) (.node 919 (zt P) (.node 918 (D9 P) .leaf .leaf) .leaf)) (.node 931 (BL P) (.node 930 (Eb P) (.node 926 (xb P) .leaf .leaf) .leaf) (.node 936 (xc P) (.node 935 (Ec P) .leaf .leaf) .leaf))))))
section
noncomputable abbrev ah:=List (Addr×Obj)
noncomputable abbrev GB:={g:Array GenState // leftWithCleanup g=false}
noncomputable def gM(l:ah)(j:Nat):Option (Addr×Obj):=
 @List.rec (Addr×Obj) (λ_=>Nat→Option (Addr×Obj)) (λ_=>none) (λx _ ih j=>@Nat.rec (λ_=>Option (Addr×Obj)) (some x) (λj _=>ih j) j) l j
noncomputable def dj(l:ah)(j:Nat)(o:Obj):ah:=
 @List.rec (Addr×Obj) (λ_=>Nat→ah) (λ_=>[]) (λx t ih j=>@Nat.rec (λ_=>ah) ((x.1,o)::t) (λj _=>x::ih j) j) l j
theorem bO:∀(l:ah)(j:Nat),gM l j=l[j]?
 |[],_=>by simp[gM]
 |x::l,0=>rfl
 |x::l,j+1=>by
  have:=bO l j
  simp only[List.getElem?_cons_succ]
  rw[←this];rfl
theorem eX:∀(l:ah)(j:Nat)(o:Obj){a:Addr}{o₀:Obj},l[j]?=some (a,o₀)→dj l j o=l.set j (a,o)
 |[],_,_,_,_,h=>by simp at h
 |x::l,0,o,a,o₀,h=>by
  simp only[List.getElem?_cons_zero,Option.some.injEq]at h
  subst h;rfl
 |x::l,j+1,o,a,o₀,h=>by
  have:=eX l j o (by simpa using h)
  show x::dj l j o=x::l.set j (a,o)
  rw[this]
noncomputable def aB(h0:Option Value):Kont→Option Value
 |.ret _ hd _ κ=>hd.or (aB h0 κ)
 |_=>h0
structure St where
 c:Code
 κ:Kont
 t:Sem Fin
 os:ah
 nx:Nat
 tk:Nat
noncomputable abbrev Mk:=Nat ⊕ Sem Fin
structure nL where
 st:St
 as:List Mk
 bs:List Mk
 ok:Bool
noncomputable def St.C(s:St):Code:=@St.rec (λ_=>Code) (λc _ _ _ _ _=>c) s
noncomputable def St.K(s:St):Kont:=@St.rec (λ_=>Kont) (λ_ κ _ _ _ _=>κ) s
noncomputable def St.T(s:St):Sem Fin:=@St.rec (λ_=>Sem Fin) (λ_ _ t _ _ _=>t) s
noncomputable def St.O(s:St):ah:=@St.rec (λ_=>ah) (λ_ _ _ os _ _=>os) s
noncomputable def St.N(s:St):Nat:=@St.rec (λ_=>Nat) (λ_ _ _ _ nx _=>nx) s
noncomputable def St.J(s:St):Nat:=@St.rec (λ_=>Nat) (λ_ _ _ _ _ tk=>tk) s
noncomputable def St.setT(s:St)(t:Sem Fin):St:=@St.rec (λ_=>St) (λc κ _ os nx tk=>⟨c,κ,t,os,nx,tk⟩) s
noncomputable def St.mapT(s:St)(f:Sem Fin→Sem Fin):St:=@St.rec (λ_=>St) (λc κ t os nx tk=>⟨c,κ,f t,os,nx,tk⟩) s
noncomputable def St.nextT(s:St)(f:Sem Fin→Sem Fin)(tk:Nat):St:=@St.rec (λ_=>St) (λc κ t os nx _=>⟨c,κ,f t,os,nx,tk⟩) s
noncomputable def St.next(s:St)(f:Sem Fin→Sem Fin)(h:ah→ah)(nx tk:Nat):St:=@St.rec (λ_=>St) (λc κ t os _ _=>⟨c,κ,f t,h os,nx,tk⟩) s
noncomputable def nL.S(o:nL):St:=@nL.rec (λ_=>St) (λs _ _ _=>s) o
noncomputable def nL.A(o:nL):List Mk:=@nL.rec (λ_=>List Mk) (λ_ a _ _=>a) o
noncomputable def nL.B(o:nL):List Mk:=@nL.rec (λ_=>List Mk) (λ_ _ b _=>b) o
noncomputable def nL.Y(o:nL):Bool:=@nL.rec (λ_=>Bool) (λ_ _ _ y=>y) o
noncomputable abbrev rK:=Nat→Code→Kont→Sem Fin→ah→Nat→Nat→List Mk→List Mk→nL
noncomputable def BM:rK:=λ_ c κ t os nx tk as bs=>⟨⟨c,κ,t,os,nx,tk⟩,as,bs,true⟩
noncomputable def bJ:rK:=λ_ c κ t os nx tk as bs=>⟨⟨c,κ,t,os,nx,tk⟩,as,bs,false⟩
structure MC where
 D:Code→Sem Fin
 kt:Addr→Option Obj
 S:Setting
 S1:Setting
 S2:Setting
 h0:Option Value
 q:Code→Bool
noncomputable def xk(m:MC)(ih:rK)(r:Result):rK:=λpl c κ t os nx tk as bs=>match κ with
 |.ret c₁ _ k κ₁=>ih pl c₁ κ₁ (k r) os nx tk as bs
 |_=>bJ pl c κ t os nx tk as bs
noncomputable def yZ(m:MC)(ih:rK)(pl:Nat)(c:Code)(κ:Kont)(t t':Sem Fin)(os:ah)(nx tk:Nat)(as bs:List Mk):nL:=match t with
 |.load a _ k=>match t' with
  |.load a' _ k'=>match pl%64 with
   |0=>match m.kt a with
    |some o=>ih (pl/64) c κ (k o) os nx tk (.inr (k o)::.inl a::as) (.inr (k' o)::.inl a'::bs)
    |none=>bJ pl c κ t os nx tk as bs
   |j+1=>match gM os j with
    |some p=>ih (pl/64) c κ (k p.2) os nx tk (.inr (k p.2)::.inl a::.inl a::as) (.inr (k' p.2)::.inl a'::.inl p.1::bs)
    |none=>bJ pl c κ t os nx tk as bs
  |_=>bJ pl c κ t os nx tk as bs
 |_=>bJ pl c κ t os nx tk as bs
noncomputable def cJ(m:MC)(ih:rK):rK:=λpl c κ t os nx tk as bs=>match t with
 |.pure f=>match f with
  |.done fl=>xk m ih (.ok fl) pl c κ t os nx tk as bs
  |.again c'=>match m.q c' with
   |true=>ih pl c' κ (m.D c') os nx tk as bs
   |false=>bJ pl c κ t os nx tk as bs
 |.raise e=>xk m ih (.error e) pl c κ t os nx tk as bs
 |.rule _ k=>ih pl c κ (k ()) os nx tk as bs
 |.at _ k=>ih pl c κ (k ()) os nx tk as bs
 |.point _ k=>ih pl c κ (k ()) os nx tk as bs
 |.ask k=>match Nat.beq (pl%64) 63 with
  |true=>ih (pl/64) c κ (k m.S1) os nx tk (.inr (k m.S1)::as) (.inr (k m.S2)::bs)
  |false=>match Nat.beq (pl%64) 62 with
   |true=>yZ m ih (pl/64) c κ (k m.S1) (k m.S2) os nx tk as bs
   |false=>ih pl c κ (k m.S) os nx tk as bs
 |.load a _ k=>match pl%64 with
  |0=>match m.kt a with
   |some o=>ih (pl/64) c κ (k o) os nx tk as bs
   |none=>bJ pl c κ t os nx tk as bs
  |j+1=>match gM os j with
   |some p=>ih (pl/64) c κ (k p.2) os nx tk (.inl a::as) (.inl p.1::bs)
   |none=>bJ pl c κ t os nx tk as bs
 |.loadIfAlive a k=>match pl%64 with
  |0=>match m.kt a with
   |some o=>ih (pl/64) c κ (k (some o)) os nx tk as bs
   |none=>bJ pl c κ t os nx tk as bs
  |j+1=>match gM os j with
   |some p=>ih (pl/64) c κ (k (some p.2)) os nx tk (.inl a::as) (.inl p.1::bs)
   |none=>bJ pl c κ t os nx tk as bs
 |.update a _ f k=>match pl%64 with
  |0=>bJ pl c κ t os nx tk as bs
  |j+1=>match gM os j with
   |some p=>match (f p.2).isFreed with
    |true=>bJ pl c κ t os nx tk as bs
    |false=>ih (pl/64) c κ (k ()) (dj os j (f p.2)) nx tk (.inl a::as) (.inl p.1::bs)
   |none=>bJ pl c κ t os nx tk as bs
 |.alloc o k=>match o.isFreed with
  |true=>bJ pl c κ t os nx tk as bs
  |false=>ih pl c κ (k nx) (os++[(nx,o)]) (nx+1) tk as bs
 |.fresh k=>ih pl c κ (k tk) os nx (tk+1) as bs
 |.handled own k=>match own with
  |false=>ih pl c κ (k (aB m.h0 κ)) os nx tk as bs
  |true=>bJ pl c κ t os nx tk as bs
 |.call c' hd _ _ k=>match okMark hd with
  |true=>ih pl c' (.ret c hd k κ) (m.D c') os nx tk as bs
  |false=>bJ pl c κ t os nx tk as bs
 |_=>bJ pl c κ t os nx tk as bs
noncomputable def zH(m:MC)(n:Nat):rK:=@Nat.rec (λ_=>rK) BM (λ_ ih=>cJ m ih) n
noncomputable def go(m:MC)(n pl:Nat)(s:St):nL:=@St.rec (λ_=>nL) (λc κ t os nx tk=>zH m n pl c κ t os nx tk [] []) s
structure cM where
 l:List Addr
 fs:List Addr
noncomputable def Obj.sl(o:Obj)(sl:Array (Option Value)):Obj:=⟨o.cls,o.dict,o.data,sl⟩
structure aI(kt:Addr→Option Obj)(hb:Heap)(m0:cM)(h:Heap)(os:ah)(nx:Nat):Prop where
 size:h.objs.size=nx
 st:∀a o,kt a=some o→h.get? a=some o
 own:∀p∈os,h.get? p.1=some p.2
 off:∀p∈os,∀o,kt p.1≠some o
 nd:(os.map (·.1)).Nodup
 low:∀p∈os,p.1∈m0.l∨hb.objs.size≤p.1
 keep:∀b o,hb.get? b=some o→b∉m0.l→(b∉m0.fs→h.get? b=some o)∧∃sl,h.get? b=some (Obj.sl o sl)
 grow:hb.objs.size≤nx
section
variable{kt:Addr→Option Obj}{hb h:Heap}{m0:cM}{os:ah}{nx:Nat}
theorem aI.alloc(H:aI kt hb m0 h os nx){o:Obj}(hf:o.isFreed=false):aI kt hb m0 (h.push o) (os++[(nx,o)]) (nx+1):=by
 have hn:∀p∈os,p.1<nx:=λp hp=>H.size▸Heap.lt_size (H.own p hp)
 refine⟨by rw[Heap.size_push,H.size],λa o' e=>Heap.get?_push_of_some _ (H.st a o' e),λp hp=>?_,λp hp o' e=>?_,?_,λp hp=>?_,λb o' e hb'=>⟨λhf=>Heap.get?_push_of_some _ ((H.keep b o' e hb').1 hf),(H.keep b o' e hb').2.elim λsl q=>⟨sl,Heap.get?_push_of_some _ q⟩⟩,Nat.le_succ_of_le H.grow⟩
 ·rcases F0.mp hp with hp|hp
  ·exact Heap.get?_push_of_some _ (H.own p hp)
  ·simp only[FW]at hp
   subst hp
   rw[←H.size];exact Heap.get?_push_size _ hf
 ·rcases F0.mp hp with hp|hp
  ·exact H.off p hp o' e
  ·simp only[FW]at hp
   subst hp
   have:=Heap.lt_size (H.st _ _ e)
   rw[H.size]at this
   exact Nat.lt_irrefl _ this
 ·rw[FM,FR,List.map_nil]
  refine List.nodup_append.mpr ⟨H.nd,by simp,λa ha b hb'=>?_⟩
  simp only[FW]at hb'
  subst hb'
  obtain⟨p,hp,rfl⟩:=FX.mp ha
  exact Nat.ne_of_lt (hn p hp)
 ·rcases F0.mp hp with hp|hp
  ·exact H.low p hp
  ·simp only[FW]at hp
   subst hp
   exact .inr H.grow
theorem fw{l:ah}{j:Nat}{a:Addr}{o o':Obj}(hj:l[j]?=some (a,o)){p:Addr×Obj}(hp:p∈l.set j (a,o')):p=(a,o')∨p∈l:=by
 rcases List.mem_or_eq_of_mem_set hp with h|h
 ·exact .inr h
 ·exact .inl h
theorem eB{l:ah}{j:Nat}{a:Addr}{o o':Obj}(hj:l[j]?=some (a,o)):(l.set j (a,o')).map (·.1)=l.map (·.1):=by
 rw[List.map_set]
 have:(l.map (·.1))[j]?=some a:=by rw[List.getElem?_map,hj];rfl
 exact PySem.W.X.set_same this
theorem iF{l:ah}(nd:(l.map (·.1)).Nodup){j:Nat}{a:Addr}{o o':Obj}(hj:l[j]?=some (a,o)){p:Addr×Obj}(hp:p∈l.set j (a,o'))(e:p.1=a):p=(a,o'):=by
 have hx:(a,o')∈l.set j (a,o'):=List.mem_set (List.getElem?_eq_some_iff.mp hj).1 _
 exact PySem.W.X.key_unique (by rw[eB hj];exact nd) hp hx e
theorem aI.update(H:aI kt hb m0 h os nx){j:Nat}{a:Addr}{o:Obj}{f:Obj→Obj}(hj:os[j]?=some (a,o))(hf:(f o).isFreed=false):aI kt hb m0 (h.update a f) (os.set j (a,f o)) nx:=by
 have hm:=List.mem_of_getElem? hj
 have ho:=H.own _ hm
 have hs:Heap.SameBut a h (h.update a f):=Heap.SameBut.update ..
 have ge:(h.update a f).get? a=some (f o):=by first|exact Heap.get?_update_self f ho hf|exact Heap.get?_update_self _ ho hf
 refine⟨by rw[hs.1,H.size],λb o' e=>?_,λp hp=>?_,λp hp o' e=>?_,by rw[eB hj];exact H.nd,λp hp=>?_,λb o' e hb'=>?_,H.grow⟩
 ·have:b≠a:=λz=>H.off _ hm o' (z▸e)
  exact(hs.2 b this).trans (H.st b o' e)
 ·by_cases e:p.1=a
  ·rw[iF H.nd hj hp e];exact ge
  ·rcases fw hj hp with rfl|hp
   ·exact absurd rfl e
   ·exact(hs.2 _ e).trans (H.own p hp)
 ·rcases fw hj hp with rfl|hp
  ·exact H.off (a,o) hm o' e
  ·exact H.off p hp o' e
 ·rcases fw hj hp with rfl|hp
  ·exact H.low (a,o) hm
  ·exact H.low p hp
 ·have hne:b≠a:=by
   rintro rfl
   rcases H.low _ hm with q|q
   ·exact hb' q
   ·exact absurd (Heap.lt_size e) (Nat.not_lt.mpr q)
  rw[hs.2 b hne]
  exact H.keep b o' e hb'
end
theorem aI.perm{kt:Addr→Option Obj}{hb h:Heap}{m0:cM}{os os':ah}{nx:Nat}(H:aI kt hb m0 h os nx)(e:os.Perm os'):aI kt hb m0 h os' nx:=
 ⟨H.size,H.st,λp hp=>H.own p (e.mem_iff.mpr hp),λp hp=>H.off p (e.mem_iff.mpr hp),((e.map _).nodup_iff).mp H.nd,λp hp=>H.low p (e.mem_iff.mpr hp),H.keep,H.grow⟩
theorem aI.allocF{kt:Addr→Option Obj}{hb h:Heap}{m0:cM}{os fr:ah}{nx:Nat}(H:aI kt hb m0 h (os++fr) nx){o:Obj}(hf:o.isFreed=false):aI kt hb m0 (h.push o) ((os++[(nx,o)])++fr) (nx+1):=
 (H.alloc hf).perm (by
  rw[FV,FV]
  exact(List.Perm.append_left os (List.perm_append_comm (l₁:=fr) (l₂:=[(nx,o)]))))
theorem aI.updateF{kt:Addr→Option Obj}{hb h:Heap}{m0:cM}{os fr:ah}{nx:Nat}(H:aI kt hb m0 h (os++fr) nx){j:Nat}{a:Addr}{o:Obj}{f:Obj→Obj}(hj:os[j]?=some (a,o))(hf:(f o).isFreed=false):aI kt hb m0 (h.update a f) (os.set j (a,f o)++fr) nx:=by
 have hlt:j<os.length:=(List.getElem?_eq_some_iff.mp hj).1
 have:=H.update (j:=j) (a:=a) (o:=o) (f:=f) (by rw[List.getElem?_append_left hlt];exact hj) hf
 rwa[List.set_append_left _ _ hlt]at this
structure GC where
 V:XV
 kt:Addr→Option Obj
 hb:Heap
 m0:cM
 g:Array GenState
 fr:ah
structure Gd(G:GC)(s:St):Prop where
 run:∀h,aI G.kt G.hb G.m0 h (s.os++G.fr) s.nx→Means G.V s.c none s.κ s.t ⟨h,G.g,G.V.d,s.tk,G.V.os⟩
structure nN(m:MC)(G:GC):Prop where
 D:∀c,m.D c=denote table c
 kt:m.kt=G.kt
 S:m.S=⟨G.V.prog,G.V.w.params⟩
 S12:m.S=m.S1∨m.S=m.S2
 h0:m.h0=G.V.A₀.handled
 q:∀c,m.q c=true→c.quiet=true
theorem dB(V:XV):∀κ:Kont,(∀g c k κ',κ≠.gen g c k κ')→(aroundOf V true κ).handled=aB V.A₀.handled κ
 |.base,_=>rfl
 |.ret c hd k κ,_=>by
  show hd.or (aroundOf V true κ).handled=hd.or _
  congr 1
  cases κ with
  |base=>rfl
  |ret c hd k κ=>exact dB V (.ret c hd k κ) (λ_ _ _ _ e=>nomatch e)
  |gen g c k κ=>rfl
  |genS g c fs k κ=>rfl
 |.gen g c k κ,h=>absurd rfl (h g c k κ)
 |.genS g c fs k κ,_=>rfl
theorem bv(V:XV)(κ:Kont):(aroundOf V true κ).handled=aB V.A₀.handled κ:=by
 cases κ with
 |gen g c k κ=>rfl
 |base=>exact dB V _ (λ_ _ _ _ e=>nomatch e)
 |ret=>exact dB V _ (λ_ _ _ _ e=>nomatch e)
 |genS=>exact dB V _ (λ_ _ _ _ e=>nomatch e)
noncomputable def yG(G:GC)(o:nL):Prop:=o.ok=true∧o.as=o.bs∧Gd G o.st
noncomputable def Ih(G:GC)(ih:rK):Prop:=∀pl c κ t os nx tk as bs,as.length=bs.length→yG G (ih pl c κ t os nx tk as bs)→as=bs∧Gd G ⟨c,κ,t,os,nx,tk⟩
theorem aP{G:GC}{pl c κ t os nx tk as bs}(h:yG G (bJ pl c κ t os nx tk as bs)):False:=by
 have:=h.1
 cases this
section
variable{m:MC}{G:GC}{ih:rK}(F:nN m G)(IH:Ih G ih)
include IH in
theorem uZ(r:Result){pl c κ t os nx tk as bs}(hl:as.length=bs.length)(ht:t=leafOf r)(H:yG G (xk m ih r pl c κ t os nx tk as bs)):as=bs∧Gd G ⟨c,κ,t,os,nx,tk⟩:=by
 cases κ with
 |base=>exact(aP (pl:=pl) H).elim
 |gen=>exact(aP (pl:=pl) H).elim
 |genS=>exact(aP (pl:=pl) H).elim
 |ret c₁ hd k κ₁ =>
  obtain⟨e,g⟩:=IH pl c₁ κ₁ (k r) os nx tk as bs hl H
  refine⟨e,⟨λh R=>?_⟩⟩
  have z:endOf G.V (.ret c₁ hd k κ₁) r ⟨h,G.g,G.V.d,tk,G.V.os⟩:=g.run h R
  cases r with
  |ok f=>subst ht;exact y_pure _ _ _ _ _ _ _ _ _ (y_done _ _ _ _ _ _ z)
  |error e=>subst ht;exact y_raise _ _ _ _ _ _ _ _ _ (y_err _ _ _ z)
include F IH in
theorem xC:Ih G (cJ m ih):=by
 intro pl c κ t os nx tk as bs hl H
 cases t with
 |pure f =>
  cases f with
  |done fl=>exact uZ (m:=m) IH (.ok fl) hl rfl H
  |again c' =>
   cases q:m.q c' with
   |false=>(delta cJ at H;dsimp only at H;rw[q]at H;dsimp only at H);exact(aP (pl:=pl) H).elim
   |true =>
    (delta cJ at H;dsimp only at H;rw[q]at H;dsimp only at H)
    obtain⟨e,g⟩:=IH _ _ _ _ _ _ _ _ _ hl H
    refine⟨e,⟨λh R=>?_⟩⟩
    have z:=g.run h R
    have z':wpOwn (model G.V.prog G.V.w) (aroundOf G.V true κ) c' (m.D c') (postC G.V.prog G.V.w (aroundOf G.V true κ) (endOf G.V κ)) (postE (endOf G.V κ)) ⟨h,G.g,G.V.d,tk,G.V.os⟩:=z
    rw[F.D]at z'
    exact y_pure _ _ _ _ _ _ _ _ _ (y_again _ _ _ _ _ _ (F.q _ q) (y_code _ _ _ _ _ _ z'))
 |raise e=>exact uZ (m:=m) IH (.error e) hl rfl H
 |rule tag k =>
  obtain⟨e,g⟩:=IH _ _ _ _ _ _ _ _ _ hl H
  exact⟨e,⟨λh R=>y_skim _ _ _ _ _ _ _ _ _ 1 (g.run h R)⟩⟩
 |«at» p k =>
  obtain⟨e,g⟩:=IH _ _ _ _ _ _ _ _ _ hl H
  exact⟨e,⟨λh R=>y_skim _ _ _ _ _ _ _ _ _ 1 (g.run h R)⟩⟩
 |point l k =>
  obtain⟨e,g⟩:=IH _ _ _ _ _ _ _ _ _ hl H
  exact⟨e,⟨λh R=>y_skim _ _ _ _ _ _ _ _ _ 1 (g.run h R)⟩⟩
 |ask k =>
  have out:∀t',k m.S=t'→Gd G ⟨c,κ,t',os,nx,tk⟩→Gd G ⟨c,κ,.ask k,os,nx,tk⟩:=λt' e g=>⟨λh R=>y_skim _ _ _ _ _ _ _ _ _ 1 (by
   have z:=g.run h R
   rw[←e,F.S]at z
   exact z)⟩
  (delta cJ at H;dsimp only at H)
  split at H
  ·obtain⟨e,g⟩:=IH _ _ _ _ _ _ _ _ _ (by simp[hl]) H
   injection e with e1 e2
   injection e1 with e1
   exact⟨e2,out _ (F.S12.elim (λq=>by rw[q]) λq=>by rw[q,e1]) g⟩
  ·split at H
   ·delta yZ at H
    split at H
    ·rename_i a q k1 h1
     split at H
     ·rename_i a' q' k2 h2
      split at H
      ·split at H
       ·rename_i o eo
        obtain⟨e,g⟩:=IH _ _ _ _ _ _ _ _ _ (by simp[hl]) H
        injection e with e1 e2
        injection e1 with e1
        injection e2 with e2 e3
        injection e2 with e2
        subst e2
        refine⟨e3,F.S12.elim (λz=>out _ (by rw[z,h1]) ⟨λh R=>?_⟩) λz=>out _ (by rw[z,h2]) ⟨λh R=>?_⟩⟩
        ·exact y_load _ _ _ _ _ _ _ _ _ _ _ _ _ _ _ o (R.st a o (F.kt▸eo)) (g.run h R)
        ·exact y_load _ _ _ _ _ _ _ _ _ _ _ _ _ _ _ o (R.st a o (F.kt▸eo)) (by rw[←e1];exact g.run h R)
       ·exact(aP (pl:=pl) H).elim
      ·split at H
       ·rename_i j _ p eq
        obtain⟨e,g⟩:=IH _ _ _ _ _ _ _ _ _ (by simp[hl]) H
        injection e with e1 e2
        injection e1 with e1
        injection e2 with e2 e3
        injection e2 with e2
        subst e2
        injection e3 with e3 e4
        injection e3 with e3
        have own:∀h,aI G.kt G.hb G.m0 h (os++G.fr) nx→h.get? a=some p.2:=λh R=>by
         rw[e3]
         exact R.own p (FN _ (List.mem_of_getElem? (by rw[←bO];exact eq)))
        refine⟨e4,F.S12.elim (λz=>out _ (by rw[z,h1]) ⟨λh R=>?_⟩) λz=>out _ (by rw[z,h2]) ⟨λh R=>?_⟩⟩
        ·exact y_load _ _ _ _ _ _ _ _ _ _ _ _ _ _ _ p.2 (own h R) (g.run h R)
        ·exact y_load _ _ _ _ _ _ _ _ _ _ _ _ _ _ _ p.2 (own h R) (by rw[←e1];exact g.run h R)
       ·exact(aP (pl:=pl) H).elim
     ·exact(aP (pl:=pl) H).elim
    ·exact(aP (pl:=pl) H).elim
   ·obtain⟨e,g⟩:=IH _ _ _ _ _ _ _ _ _ hl H
    exact⟨e,out _ rfl g⟩
 |load a p k =>
  (delta cJ at H;dsimp only at H)
  split at H
  ·split at H
   ·rename_i o eo
    obtain⟨e,g⟩:=IH _ _ _ _ _ _ _ _ _ hl H
    refine⟨e,⟨λh R=>y_load _ _ _ _ _ _ _ _ _ _ _ _ _ _ _ o (R.st a o (F.kt▸eo)) (g.run h R)⟩⟩
   ·exact(aP (pl:=pl) H).elim
  ·split at H
   ·rename_i j _ q eq
    obtain⟨e,g⟩:=IH _ _ _ _ _ _ _ _ _ (by simp[hl]) H
    injection e with e1 e2
    injection e1 with e1
    refine⟨e2,⟨λh R=>y_load _ _ _ _ _ _ _ _ _ _ _ _ _ _ _ q.2 ?_ (g.run h R)⟩⟩
    rw[e1]
    exact R.own q (FN _ (List.mem_of_getElem? (by rw[←bO];exact eq)))
   ·exact(aP (pl:=pl) H).elim
 |loadIfAlive a k =>
  (delta cJ at H;dsimp only at H)
  split at H
  ·split at H
   ·rename_i o eo
    obtain⟨e,g⟩:=IH _ _ _ _ _ _ _ _ _ hl H
    refine⟨e,⟨λh R=>y_alive _ _ _ _ _ _ _ _ _ _ _ _ _ _ o (R.st a o (F.kt▸eo)) (g.run h R)⟩⟩
   ·exact(aP (pl:=pl) H).elim
  ·split at H
   ·rename_i j _ q eq
    obtain⟨e,g⟩:=IH _ _ _ _ _ _ _ _ _ (by simp[hl]) H
    injection e with e1 e2
    injection e1 with e1
    refine⟨e2,⟨λh R=>y_alive _ _ _ _ _ _ _ _ _ _ _ _ _ _ q.2 ?_ (g.run h R)⟩⟩
    rw[e1]
    exact R.own q (FN _ (List.mem_of_getElem? (by rw[←bO];exact eq)))
   ·exact(aP (pl:=pl) H).elim
 |update a p f k =>
  (delta cJ at H;dsimp only at H)
  split at H
  ·exact(aP (pl:=pl) H).elim
  ·split at H
   ·rename_i j _ q eq
    split at H
    ·exact(aP (pl:=pl) H).elim
    ·rename_i hf
     obtain⟨e,g⟩:=IH _ _ _ _ _ _ _ _ _ (by simp[hl]) H
     injection e with e1 e2
     injection e1 with e1
     rw[bO]at eq
     obtain⟨b,o⟩:=q
     dsimp only at e1 hf g
     subst e1
     refine⟨e2,⟨λh R=>?_⟩⟩
     have ho:=R.own _ (FN _ (List.mem_of_getElem? eq))
     have z:=g.run (h.update a f) (by rw[eX _ _ _ eq];exact R.updateF eq hf)
     exact wpOwn_bind (m:=updatePart a p f) (f:=k) (wpOwn_of_wpAny (wpAny_updatePart ho z))
   ·exact(aP (pl:=pl) H).elim
 |alloc o k =>
  (delta cJ at H;dsimp only at H)
  split at H
  ·exact(aP (pl:=pl) H).elim
  ·rename_i hf
   obtain⟨e,g⟩:=IH _ _ _ _ _ _ _ _ _ hl H
   refine⟨e,⟨λh R=>?_⟩⟩
   have z:=g.run (h.push o) (R.allocF hf)
   have es:=R.size
   exact wpOwn_bind (m:=alloc o) (f:=k) (wpOwn_of_wpAny (wpAny_alloc (by dsimp only;rw[es];exact z)))
 |fresh k =>
  obtain⟨e,g⟩:=IH _ _ _ _ _ _ _ _ _ hl H
  exact⟨e,⟨λh R=>y_fresh _ _ _ _ _ _ _ _ _ _ _ _ _ (g.run h R)⟩⟩
 |handled own k =>
  cases own with
  |true=>exact(aP (pl:=pl) H).elim
  |false =>
   obtain⟨e,g⟩:=IH _ _ _ _ _ _ _ _ _ hl H
   refine⟨e,⟨λh R=>y_handled _ _ _ _ _ _ _ _ _ ?_⟩⟩
   have z:=g.run h R
   rw[bv,←F.h0]
   exact z
 |call c' hd gd l k =>
  (delta cJ at H;dsimp only at H)
  split at H
  ·rename_i q
   obtain⟨e,g⟩:=IH _ _ _ _ _ _ _ _ _ hl H
   refine⟨e,⟨λh R=>?_⟩⟩
   have hnb:hd≠some byPass:=by
    intro e
    subst e
    simp[okMark]at q
   have z:=g.run h R
   have z':wpOwn (model G.V.prog G.V.w) (aroundOf G.V true (.ret c hd k κ)) c' (m.D c') (postC G.V.prog G.V.w (aroundOf G.V true (.ret c hd k κ)) (endOf G.V (.ret c hd k κ))) (postE (endOf G.V (.ret c hd k κ))) ⟨h,G.g,G.V.d,tk,G.V.os⟩:=z
   rw[F.D]at z'
   exact y_call _ _ _ _ _ _ _ _ _ _ _ _ _ hnb (y_code _ _ _ _ _ _ z')
  ·exact(aP (pl:=pl) H).elim
 |unsupported=>exact(aP (pl:=pl) H).elim
 |finish=>exact(aP (pl:=pl) H).elim
 |register=>exact(aP (pl:=pl) H).elim
 |choose=>exact(aP (pl:=pl) H).elim
 |os=>exact(aP (pl:=pl) H).elim
 |fork=>exact(aP (pl:=pl) H).elim
 |thread=>exact(aP (pl:=pl) H).elim
 |await=>exact(aP (pl:=pl) H).elim
 |newGen=>exact(aP (pl:=pl) H).elim
 |genState=>exact(aP (pl:=pl) H).elim
 |resume=>exact(aP (pl:=pl) H).elim
 |yield=>exact(aP (pl:=pl) H).elim
 |stack=>exact(aP (pl:=pl) H).elim
end
theorem vh{m:MC}{G:GC}(F:nN m G):∀n,Ih G (zH m n)
 |0=>λ_ _ _ _ _ _ _ _ _ _ H=>⟨H.2.1,H.2.2⟩
 |n+1=>xC F (vh F n)
theorem eI{m:MC}{G:GC}(F:nN m G)(n pl:Nat){s:St}(ok:(go m n pl s).Y=true)(ab:(go m n pl s).A=(go m n pl s).B)(h:Gd G (go m n pl s).S):Gd G s:=by
 obtain⟨c,κ,t,os,nx,tk⟩:=s
 exact(vh F n pl c κ t os nx tk [] [] rfl ⟨ok,ab,h⟩).2
end
noncomputable abbrev pw:Program:=PySem.Challenge.pw_op0285_01
noncomputable def Dq:Code→Sem Fin:=PySem.W.Fast.tw11892475500146522536 PySem.W.Fast.tw14364793385576792824
theorem lw(c:Code):Dq c=denote table c:=by
 unfold Dq
 rw[←PySem.W.Fast.te11892475500146522536,←PySem.W.Fast.te14364793385576792824,←table_eq_tree]
noncomputable def qq:Code→Bool:=PySem.W.ZFast.zw17772548960776305114
theorem oP:Code.quiet=qq:=PySem.W.ZFast.ze17772548960776305114
noncomputable def wt:Code→Nat:=PySem.W.ZFast.zw1243936422450756474
theorem fJ:Code.weight=wt:=PySem.W.ZFast.ze1243936422450756474
noncomputable def un:Code→Nat:=PySem.W.ZFast.zw165980757501359005
theorem gO:Code.cUnits=un:=PySem.W.ZFast.ze165980757501359005
noncomputable def bo(w:World):Addr→Option Obj:=(eV w.params).get
theorem gx(b:String)(n:Nat)(h:PySem.code b=n)(s:String)(e:PySem.W.S.eqLit n s=true):s=b:=by
 have:=congrFun (PySem.W.S.eqLit_eq b n h) s
 rw[←this]at e
 exact eq_of_beq e
noncomputable def fT(P:Params)(b:Bool):Params:={P with followText:=λs=>@Bool.rec (λ_=>Bool) (P.followText s) b (PySem.W.S.eqLit 0x7466746a62732e7566682e6d626a64667174 s)}
theorem yc(P:Params):P=fT P (P.followText "special-get-raises"):=by
 unfold fT
 have:P.followText=λs=>@Bool.rec (λ_=>Bool) (P.followText s) (P.followText "special-get-raises") (PySem.W.S.eqLit 0x7466746a62732e7566682e6d626a64667174 s):=by
  funext s
  cases e1:PySem.W.S.eqLit 0x7466746a62732e7566682e6d626a64667174 s with
  |true=>rw[gx "special-get-raises" _ (by decide +kernel) s e1]
  |false=>rfl
 rw[←this]
theorem Ba(P:Params):P=fT P true∨P=fT P false:=by
 cases e:P.followText "special-get-raises" with
 |true=>exact .inl (e▸yc P)
 |false=>exact .inr (e▸yc P)
noncomputable def ag(w:World)(h0:Option Value):MC:={D:=Dq,kt:=bo w,S:=⟨pw,w.params⟩,S1:=⟨pw,fT w.params true⟩,S2:=⟨pw,fT w.params false⟩,h0,q:=qq}
noncomputable def bF(w:World)(A:Around)(R:Result→Shared→Prop)(d:Drawn)(os:OsState):XV:=
 {prog:=pw,w,h₀:={},n₁:=0,kt:=.nil,tabs:=[],A₀:=A,R₀:=R,d,t₀:=0,os}
noncomputable def aG(w:World)(A:Around)(R:Result→Shared→Prop)(d:Drawn)(os:OsState)(hb:Heap)(m0:cM)(g:Array GenState)(fr:ah):GC:=
 {V:=bF w A R d os,kt:=bo w,hb,m0,g,fr}
theorem fits(w:World)(A:Around)(R:Result→Shared→Prop)(d:Drawn)(os:OsState)(hb:Heap)(m0:cM)(g:Array GenState)(fr:ah)(h0:Option Value)(h:A.handled=h0):nN (ag w h0) (aG w A R d os hb m0 g fr):=
 ⟨lw,rfl,rfl,(Ba w.params).imp (congrArg (Setting.mk pw)) (congrArg (Setting.mk pw)),h.symm,λc e=>by rw[oP];exact e⟩
noncomputable def n7:Kont→Nat
 |.ret c _ _ κ=>n7 κ+wt c
 |_=>0
noncomputable def sP:Kont→Nat
 |.ret c _ _ κ=>sP κ+un c
 |_=>0
theorem eK(V:XV):∀κ:Kont,(aroundOf V true κ).depth≤V.A₀.depth+n7 κ
 |.base=>Nat.le_refl _
 |.ret c hd k κ=>by
  have:=eK V κ
  show(aroundOf V true κ).depth+c.weight≤V.A₀.depth+(n7 κ+wt c)
  rw[fJ];lia
 |.gen ..=>Nat.le_refl _
 |.genS ..=>Nat.le_refl _
theorem gn(V:XV):∀κ:Kont,(aroundOf V true κ).units≤V.A₀.units+sP κ
 |.base=>Nat.le_refl _
 |.ret c hd k κ=>by
  have:=gn V κ
  show(aroundOf V true κ).units+c.cUnits≤V.A₀.units+(sP κ+un c)
  rw[gO];lia
 |.gen ..=>Nat.le_refl _
 |.genS ..=>Nat.le_refl _
theorem nA{G:GC}{s:St}(m:Sem Unit)(T:Sem Fin)(hs:s.T=m.bind λ_=>T)
  (hm:∀h,aI G.kt G.hb G.m0 h (s.O++G.fr) s.N→∀(Q:Unit→Shared→Prop)(E:Value→Shared→Prop),Q () ⟨h,G.g,G.V.d,s.J,G.V.os⟩→
   wpAny (model G.V.prog G.V.w) ((aroundOf G.V true s.K).under s.C) m Q E ⟨h,G.g,G.V.d,s.J,G.V.os⟩)
  (h:Gd G (s.setT T)):Gd G s:=⟨λhp R=>by
 obtain⟨c,κ,t,os,nx,tk⟩:=s
 have z:=h.run hp R
 show wpOwn _ _ _ t _ _ _
 rw[show t=_ from hs]
 exact wpOwn_bind (m:=m) (f:=λ_=>T) (wpOwn_of_wpAny (hm hp R _ _ z))⟩
theorem fz{w:World}{h:Heap}(st:∀a o,bo w a=some o→h.get? a=some o):h.NoLimit:=by
 have e:h.get? 2=some (o2 w.params):=st 2 _ (by kernel_rfl)
 refine⟨h.nsMap cStatics,.of_isNs ?_,?_⟩
 ·show h.isNs 2=true
  unfold Heap.isNs
  rw[e]
  kernel_rfl
 ·show h.nsMap 2 _=none
  unfold Heap.nsMap
  rw[e]
  show nsFind _ _=none
  kernel_rfl
noncomputable def dy:Sem Unit:=PySem.W.Fast.tw15066281185411960212 0
theorem gS:(enterFrame:Sem Unit)=dy:=by
 unfold dy
 rw[←PySem.W.Fast.te15066281185411960212]
noncomputable def vv:Sem Fin→Sem Fin
 |.stack k=>k []
 |t=>t
noncomputable def uk(o:Obj):Sem Fin→Sem Fin
 |.load _ _ k=>k o
 |t=>t
noncomputable def bW(P:Params)(t:Sem Fin):Sem Fin:=uk (o2 P) (vv t)
theorem tG{w:World}{A:Around}{R:Result→Shared→Prop}{d:Drawn}{os:OsState}{hb:Heap}{m0:cM}{g:Array GenState}{fr:ah}{s:St}
  (hs:s.T=PySem.W.R.bindR dy λ_=>bW w.params s.T) (hd:Nat.ble (n7 s.K+wt s.C) 40=true) (hk:A.depth≤940)
  (h:Gd (aG w A R d os hb m0 g fr) (s.mapT (bW w.params))):Gd (aG w A R d os hb m0 g fr) s:=
 nA dy _ (by rw[PySem.W.R.bindR_eq];exact hs) (λhp H Q E q=>by
  rw[←gS]
  refine wpAny_enterFrame (fz H.st) ?_ q
  have:=eK (bF w A R d os) s.K
  show(aroundOf (bF w A R d os) true s.K).depth+s.C.weight<recursionLimit
  have e:s.C.weight=wt s.C:=by rw[fJ]
  have e2:(bF w A R d os).A₀.depth=A.depth:=rfl
  have e3:=Nat.le_of_ble_eq_true hd
  have e4:recursionLimit=1000:=rfl
  lia) h
noncomputable def BS(v:World)(b1 b2 b3:Bool)(s:String):Bool:=@Bool.rec (λ_=>Bool) (@Bool.rec (λ_=>Bool) (@Bool.rec (λ_=>Bool) (v.params.followText s) b3 (PySem.W.S.eqLit 0x73666573702e756674 s)) b2 (PySem.W.S.eqLit 0x66646a78752e7366756a2e6f706a746f66696673716e7064 s)) b1 (PySem.W.S.eqLit 0x7466746a62732e7566682e6d626a64667174 s)
noncomputable def ay(v:World)(b1 b2 b3:Bool):World:={v with params:={v.params with followText:=BS v b1 b2 b3}}
theorem al(w:World):∃v b1 b2 b3,w=ay v b1 b2 b3:=by
 refine⟨w,w.params.followText "special-get-raises",w.params.followText "comprehension-iter-twice",w.params.followText "set-order",?_⟩
 unfold ay BS
 have:w.params.followText=λs=>@Bool.rec (λ_=>Bool) (@Bool.rec (λ_=>Bool) (@Bool.rec (λ_=>Bool) (w.params.followText s) (w.params.followText "set-order") (PySem.W.S.eqLit 0x73666573702e756674 s)) (w.params.followText "comprehension-iter-twice") (PySem.W.S.eqLit 0x66646a78752e7366756a2e6f706a746f66696673716e7064 s)) (w.params.followText "special-get-raises") (PySem.W.S.eqLit 0x7466746a62732e7566682e6d626a64667174 s):=by
  funext s
  cases e1:PySem.W.S.eqLit 0x7466746a62732e7566682e6d626a64667174 s with
  |true=>rw[gx "special-get-raises" _ (by decide +kernel) s e1]
  |false =>
   cases e2:PySem.W.S.eqLit 0x66646a78752e7366756a2e6f706a746f66696673716e7064 s with
   |true=>rw[gx "comprehension-iter-twice" _ (by decide +kernel) s e2]
   |false =>
    cases e3:PySem.W.S.eqLit 0x73666573702e756674 s with
    |true=>rw[gx "set-order" _ (by decide +kernel) s e3]
    |false=>rfl
 rw[←this]
noncomputable def lK:Program→World→SharedT→Thread→Option (SharedT×Thread):=PySem.W.Fast.tw10156331382660048174 Dq
noncomputable def Cn:Nat→Option Value→Thread→Bool:=PySem.W.Fast.tw6613529449190102663
theorem yF:Dq=denote treeTable:=by
 unfold Dq
 rw[←PySem.W.Fast.te11892475500146522536,←PySem.W.Fast.te14364793385576792824]
theorem ol(p:Program)(w:World)(s:SharedT)(t:Thread):lK p w s t=stepT (denote treeTable) p w s t:=by
 unfold lK
 rw[←PySem.W.Fast.te10156331382660048174,yF]
theorem tO(n₀:Nat)(ann:Option Value)(t:Thread):Cn n₀ ann t=stepOk n₀ ann t:=by
 unfold Cn
 rw[←PySem.W.Fast.te6613529449190102663]
noncomputable def xq(w:World)(n₀:Nat)(ann:Option Value)(n:Nat):SharedT→Thread→Option SharedT:=
 @Nat.rec (λ_=>SharedT→Thread→Option SharedT) (λ_ _=>none) (λ_ ih s t=>@Bool.rec (λ_=>Option SharedT) (@Bool.rec (λ_=>Option SharedT) none (match lK pw w s t with|some x=>ih x.1 x.2|none=>none) (Cn n₀ ann t)) (some s) (through t)) n
theorem sD(w:World)(n₀:Nat)(ann:Option Value)(n:Nat)(s:SharedT)(t:Thread):xq w n₀ ann (n+1) s t=@Bool.rec (λ_=>Option SharedT) (@Bool.rec (λ_=>Option SharedT) none (match lK pw w s t with|some x=>xq w n₀ ann n x.1 x.2|none=>none) (Cn n₀ ann t)) (some s) (through t):=rfl
theorem oX{w:World}{n₀:Nat}{ann:Option Value}:∀{n:Nat}{s s':SharedT}{t:Thread},xq w n₀ ann n s t=some s'→topRun treeTable pw w n₀ ann n s.abs t=some s'.abs
 |0,_,_,_,h=>by cases h
 |n+1,s,s',t,h=>by
  rw[sD]at h
  unfold topRun
  cases ht:through t with
  |true=>rw[ht]at h;cases h;rfl
  |false =>
   rw[ht]at h
   cases hk:stepOk n₀ ann t with
   |false=>rw[tO,hk]at h;cases h
   |true =>
    rw[tO,hk,ol]at h
    cases hs:stepT (denote treeTable) pw w s t with
    |none=>rw[hs]at h;cases h
    |some r=>rw[hs]at h;rw[stepT_spec hs];exact oX h
noncomputable def wA(w:World)(n:Nat):SharedT→Thread→Option SharedT:=
 @Nat.rec (λ_=>SharedT→Thread→Option SharedT) (λ_ _=>none) (λ_ ih s t=>match t.atExitBegin with
  |some []=>some s
  |some (_::_)=>none
  |none=>match lK (opening pw) w s t with|some x=>ih x.1 x.2|none=>none) n
theorem rX(w:World)(n:Nat)(s:SharedT)(t:Thread):wA w (n+1) s t=match t.atExitBegin with
  |some []=>some s
  |some (_::_)=>none
  |none=>match lK (opening pw) w s t with|some x=>wA w n x.1 x.2|none=>none:=rfl
theorem qE{w:World}:∀{n:Nat}{s s':SharedT}{t:Thread},wA w n s t=some s'→importEnds treeTable (opening pw) w n s.abs t=some s'.abs
 |0,_,_,_,h=>by cases h
 |n+1,s,s',t,h=>by
  rw[rX]at h
  unfold importEnds
  cases ht:t.atExitBegin with
  |some l =>
   rw[ht]at h
   cases l with
   |nil=>cases h;rfl
   |cons _ _=>cases h
  |none =>
   rw[ht]at h
   simp only[ol]at h
   cases hs:stepT (denote treeTable) (opening pw) w s t with
   |none=>rw[hs]at h;cases h
   |some r=>rw[hs]at h;rw[stepT_spec hs];exact qE h
noncomputable def ev:List Obj→List Obj
 |a::_::r=>a::ev r
 |l=>l
theorem pB:∀(l:List Obj)(i:Nat),(ev l)[i]?=l[2*i]?
 |[],i=>by simp[ev]
 |[a],i=>by cases i<;>simp[ev]
 |a::b::r,0=>rfl
 |a::b::r,i+1=>by
  show(ev r)[i]?=_
  rw[pB r i,show 2*(i+1)=2*i+1+1 by lia]
  rfl
theorem pC:∀l:List Obj,(ev l).length≤l.length
 |[]=>Nat.le_refl _
 |[a]=>Nat.le_refl _
 |a::b::r=>by have:=pC r;show(ev r).length+1≤r.length+1+1;lia
noncomputable def rM:Nat→List Obj→BT
 |0,_=>.nil
 |_+1,[]=>.nil
 |n+1,x::r=>.node x (rM n (ev r)) (rM n (ev r.tail))
theorem pq:∀(n:Nat)(l:List Obj),l.length≤n→∀i,(rM n l).get i=l[i]?
 |0,[],_,i=>by simp[rM,BT.get]
 |0,_::_,h,_=>by simp at h
 |n+1,[],_,i=>by simp[rM,BT.get]
 |n+1,x::r,h,i=>by
  have h1:(ev r).length≤n:=by have:=pC r;have:r.length+1≤n+1:=h;lia
  have h2:(ev r.tail).length≤n:=by have:=pC r.tail;have:=List.length_tail (l:=r);have:r.length+1≤n+1:=h;lia
  show(BT.node x (rM n (ev r)) (rM n (ev r.tail))).get i=_
  rw[BT.get_node]
  by_cases hi:i=0
  ·subst hi;rfl
  ·rw[if_neg hi]
   by_cases p:i%2=1
   ·rw[if_pos p,pq n _ h1,pB]
    obtain⟨k,rfl⟩:∃k,i=2*k+1:=⟨i/2,by lia⟩
    rw[show(2*k+1)/2=k by lia]
    rfl
   ·rw[if_neg p,pq n _ h2,pB]
    obtain⟨k,rfl⟩:∃k,i=2*k+2:=⟨i/2-1,by lia⟩
    rw[show(2*k+2)/2-1=k by lia]
    cases r with
    |nil=>rfl
    |cons a r=>rfl
noncomputable def Em(s:Shared):SharedT:=⟨rM s.heap.objs.toList.length s.heap.objs.toList,s.heap.objs.toList.length,s.heap.life,s.gens,s.drawn,s.toks,s.os⟩
theorem rG(s:Shared):(Em s).abs=s:=by
 obtain⟨⟨⟨l⟩,life⟩,gens,drawn,toks,os⟩:=s
 show(⟨absHeap (rM l.length l) l.length life,gens,drawn,toks,os⟩:Shared)=_
 have:absHeap (rM l.length l) l.length life=⟨⟨l⟩,life⟩:=by
  have e:(absHeap (rM l.length l) l.length life).objs=⟨l⟩:=by
   apply Array.ext_getElem?
   intro i
   rw[absHeap_at,pq _ _ (Nat.le_refl _),List.getElem?_toArray]
   by_cases h:i<l.length
   ·rw[if_pos h,List.getElem?_eq_getElem h];rfl
   ·rw[if_neg h,List.getElem?_eq_none (by lia)]
  have e2:(absHeap (rM l.length l) l.length life).life=life:=rfl
  generalize absHeap (rM l.length l) l.length life=H at e e2
  cases H
  cases e;cases e2;rfl
 rw[this]
noncomputable def Fe(w:World):Option Shared:=(wA w 20000 (Em (start (opening pw)).1) (start (opening pw)).2).bind λs=>fenceModules? pw s.abs
noncomputable def T2.keys:T2→List Nat
 |.leaf=>[]
 |.node k _ l r=>k::(l.keys++r.keys)
theorem T2.mem_keys{a:Nat}{o:Obj}:∀{t:T2},t.get a=some o→a∈t.keys
 |.leaf,h=>by cases h
 |.node k o' l r,h=>by
  have h:@Bool.rec (λ_=>Option Obj) (@Bool.rec (λ_=>Option Obj) (r.get a) (l.get a) (Nat.blt a k)) (some o') (Nat.beq a k)=some o:=h
  cases e:Nat.beq a k with
  |true=>rw[Nat.eq_of_beq_eq_true e];exact .head _
  |false =>
   rw[e]at h
   cases e2:Nat.blt a k with
   |true=>rw[e2]at h;exact .tail _ (FN _ (T2.mem_keys (t:=l) h))
   |false=>rw[e2]at h;exact .tail _ (FO _ (T2.mem_keys (t:=r) h))
noncomputable def pE(s₀ s₁:Shared):Bool:=s₀.heap.isNs mainGlobals&&(s₀.gens.size==0)&&staticsOk (importedModules pw.main.body) s₀.heap s₁.heap&&namesBound pw s₁.heap&&laidKept s₀.heap s₁.heap&&s₁.heap.accountedOkI (importedModules pw.main.body)&&s₁.heap.isNs mainGlobals&&s₁.heap.isNs builtinsNs&&s₁.heap.bmainOk&&(s₁.gens.size==0)&&Nat.ble 937 s₁.heap.objs.size
noncomputable def Bf(P:Params)(s₀:Shared)(s:SharedT):Bool×(Option Str×List (Str×Value))×Option Value×Option Obj×List (Option Obj):=
 (pE s₀ s.abs&&(eV P).keys.all λa=>Nat.blt a s.n,s.abs.heap.bltView,s.abs.heap.nsMap mainGlobals "law",s.abs.heap.get? 873,(eV P).keys.map λa=>(s.tree.get a).bind alive)
noncomputable def Bg(w:World):Option (Bool×(Option Str×List (Str×Value))×Option Value×Option Obj×List (Option Obj)):=
 (Fe w).bind λs₀=>(xq w s₀.heap.objs.size (s₀.heap.nsMap mainGlobals "__annotations__") 20000 (Em s₀) (topStub pw)).map λs₁=>Bf w.params s₀ s₁
set_option maxHeartbeats 0 in
theorem wx(w:World):Bg w=some (true,bltViewBooted,some (.ref 936),some (oH w.params),(eV w.params).keys.map λa=>(eV w.params).get a):=by kernel_rfl
noncomputable abbrev eO:=PySem.Challenge.rw_op0285_01
theorem uc:eO.row.toRowW.claim.prog.tablesWhole=true:=by kernel_rfl
theorem Fo:sreFenced eO.row.prog.main=true:=by rw[PySem.W.Fast.te11788848310118352699];kernel_rfl
theorem Fp:namesResolve eO.row.prog=true:=by rw[PySem.W.Fast.te8377067652309620493];kernel_rfl
theorem CZ:readsOut eO.row.prog eO.row.prog.main.body "vars"=false:=by rw[PySem.W.Fast.te13343964577679436407];kernel_rfl
theorem C0:readsOut eO.row.prog eO.row.prog.main.body "dir"=false:=by rw[PySem.W.Fast.te13343964577679436407];kernel_rfl
theorem C1:readsOut eO.row.prog eO.row.prog.main.body "locals"=false:=by rw[PySem.W.Fast.te13343964577679436407];kernel_rfl
theorem C2:(["vars","dir","locals"]:List Str).filter (readsOut eO.row.prog eO.row.prog.main.body)=[]:=by
 rw[List.filter_cons_of_neg (by rw[CZ];exact Bool.false_ne_true),List.filter_cons_of_neg (by rw[C0];exact Bool.false_ne_true),List.filter_cons_of_neg (by rw[C1];exact Bool.false_ne_true)]
 rfl
theorem C3:(importedModules eO.row.prog.main.body).all cThrough.contains=true:=by kernel_rfl
theorem Fq:noRoadLSs {strict:=!(importedModules eO.row.prog.main.body).all cThrough.contains,foot:=none,bare:=(["vars","dir","locals"]:List Str).filter (readsOut eO.row.prog eO.row.prog.main.body)} eO.row.prog.main.body=true:=by
 rw[C3,C2,PySem.W.Fast.te8326940854005059898];kernel_rfl
theorem Fr:(namesMeet eO.row.prog eO.row.prog.main.body λ_ n=>attrL n)=true:=by rw[PySem.W.Fast.te17119622794617984870];kernel_rfl
theorem Fs:((moduleNames eO.row.prog.main.body).isEmpty||lookedIntoSs (moduleNames eO.row.prog.main.body) eO.row.prog.main.body)=true:=by kernel_rfl
theorem r0:looksOpen eO.row.prog=true:=by
 unfold looksOpen
 refine look_both (look_both (look_both (look_both (look_both Fo Fs) Fp) ?_) Fq) Fr
 rw[PySem.W.Fast.te18344453789297297638]
 kernel_rfl
theorem vc:OpenRow.wellSaid eO.row=true:=by
 unfold OpenRow.wellSaid OpenRow.partSaid
 rw[r0]
 kernel_rfl
theorem ub:OpenLaw.wellSaid eO=true:=by
 unfold OpenLaw.wellSaid
 rw[vc,PySem.W.Fast.te8326940854005059898,PySem.W.Fast.te16286561074155671207,PySem.W.Fast.te17119622794617984870,PySem.W.Fast.te8179353310426384613,PySem.W.Fast.te9558739934217749035]
 kernel_rfl
section
noncomputable def cb(w:World)(h:Heap):Prop:=∀a o,bo w a=some o→h.get? a=some o
noncomputable def sQ(w:World)(a:Addr):Prop:=∀o,bo w a≠some o
noncomputable def k8(h:Heap)(os:ah):Prop:=∀p∈os,h.get? p.1=some p.2
noncomputable def iX(h h':Heap)(m:cM):Prop:=(∀b o,h.get? b=some o→b∉m.l→(b∉m.fs→h'.get? b=some o)∧∃sl,h'.get? b=some (Obj.sl o sl))∧h.objs.size≤h'.objs.size
noncomputable abbrev md(l:List Addr):cM:=⟨l,[]⟩
theorem a6{h':Heap}{b:Addr}{o:Obj}{fs:List Addr}(e:h'.get? b=some o):(b∉fs→h'.get? b=some o)∧∃sl,h'.get? b=some (Obj.sl o sl):=⟨λ_=>e,o.slots,e⟩
noncomputable abbrev DL(l:Nat):Nat:=940-40*l
noncomputable abbrev UL(l:Nat):Nat:=9000-100*l
structure Rm(A:Around)(L:Nat)(hd:Option Value):Prop where
 h:A.handled=hd
 d:A.depth≤DL L
 u:A.units≤UL L
inductive bj(d:Drawn)(os:OsState)(hb:Heap)(nb:Nat)(pm:cM){X:Type}(C:Nat→X→Prop)(r:X→Result)(post:X→ah)(r':Result):Shared→Prop
 |mk (x:X) (h':Heap) (tk':Tok) (g':GB) (e:r'=r x) (c:C nb x) (has:k8 h' (post x)) (low:∀p∈post x,p.1∈pm.l∨nb≤p.1) (nd:((post x).map (·.1)).Nodup) (kept:iX hb h' pm):bj d os hb nb pm C r post r' ⟨h',g',d,tk',os⟩
noncomputable def Spec(w:World)(L:Nat)(hd:Option Value)(c:Code)(pre:ah){X:Type}(C:Nat→X→Prop)(r:X→Result)(post:X→ah):Prop:=
 ∀(A:Around)(h:Heap)(g:GB)(d:Drawn)(tk:Nat)(os:OsState),Rm A L hd→cb w h→k8 h pre→(∀p∈pre,sQ w p.1)→(pre.map (·.1)).Nodup→
  codeAny (model pw w) A c (bj d os h h.objs.size (md (pre.map (·.1))) C r post) ⟨h,g,d,tk,os⟩
noncomputable def cG:Sem Fin→Bool
 |.call ..=>true
 |_=>false
noncomputable def ce:Sem Fin→Code
 |.call c _ _ _ _=>c
 |_=>.block [] default
noncomputable def b9:Sem Fin→Option Value
 |.call _ h _ _ _=>h
 |_=>none
noncomputable def cu:Sem Fin→Result→Sem Fin
 |.call _ _ _ _ k=>k
 |t=>λ_=>t
theorem ci{t:Sem Fin}:cG t=true→∃g l,t=.call (ce t) (b9 t) g l (cu t):=by
 apply@Sem.casesOn Fin (λt=>cG t=true→∃g l,t=.call (ce t) (b9 t) g l (cu t)) t<;>intros
 case call=>exact⟨_,_,rfl⟩
 all_goals (rename_i h;exact Bool.noConfusion h)
noncomputable def bu(os:ah):List Nat→List (Option (Addr×Obj))
 |[]=>[]
 |j::l=>gM os j::bu os l
noncomputable def bp(os:ah):List Nat→ah→ah
 |j::l,p::ps=>bp (dj os j p.2) l ps
 |_,_=>os
noncomputable def pX(os:ah):List Nat→ah→ah
 |[],l=>os++l
 |j::s,p::l=>pX (dj os j p.2) s l
 |_::_,[]=>os
theorem nr(sel:List Nat)(l:ah):(λos=>pX os sel l)=λos=>bp os sel (l.take sel.length)++l.drop sel.length:=by
 funext os
 induction sel generalizing os l with
 |nil=>simp[pX,bp]
 |cons j s ih =>
  cases l with
  |nil=>simp[pX,bp]
  |cons p l=>exact ih l (dj os j p.2)
theorem gg{os:ah}:∀{sel:List Nat}{pre:ah},bu os sel=pre.map some→∀p∈pre,p∈os
 |[],[],_,_,h=>nomatch h
 |[],_::_,e,_,_=>nomatch e
 |_::_,[],e,_,_=>nomatch e
 |j::l,q::pre,e,p,hp=>by
  have e1:gM os j=some q:=(List.cons.inj e).1
  have e2:=(List.cons.inj e).2
  rw[bO]at e1
  rcases FY.mp hp with rfl|hp
  ·exact List.mem_of_getElem? e1
  ·exact gg e2 p hp
theorem oM{os:ah}{j:Nat}{a:Addr}{o o':Obj}(hj:os[j]?=some (a,o)):∀{sel:List Nat}{pre:ah},bu os sel=pre.map some→a∉pre.map (·.1)→bu (os.set j (a,o')) sel=pre.map some
 |[],[],_,_=>rfl
 |[],_::_,e,_=>nomatch e
 |_::_,[],e,_=>nomatch e
 |i::l,q::pre,e,ha=>by
  have e1:gM os i=some q:=(List.cons.inj e).1
  have e2:=(List.cons.inj e).2
  rw[bO]at e1
  rw[FR,FY,not_or]at ha
  have hij:j≠i:=by
   rintro rfl
   rw[hj]at e1
   cases e1
   exact ha.1 rfl
  show gM (os.set j (a,o')) i::bu (os.set j (a,o')) l=some q::pre.map some
  rw[oM hj e2 ha.2,bO,List.getElem?_set_ne hij,e1]
theorem jA{os:ah}:∀{sel:List Nat}{pre post:ah},bu os sel=pre.map some→(pre.map (·.1)).Nodup→post.map (·.1)=pre.map (·.1)→(os.map (·.1)).Nodup→
  (bp os sel post).map (·.1)=os.map (·.1)∧∀p∈bp os sel post,p∈post∨(p∈os∧p.1∉pre.map (·.1))
 |[],[],[],_,_,_,_=>⟨rfl,λp hp=>.inr ⟨hp,by simp⟩⟩
 |[],_::_,_,e,_,_,_=>nomatch e
 |_::_,[],_,e,_,_,_=>nomatch e
 |[],[],_::_,_,_,e,_=>nomatch e
 |j::l,q::pre,[],e,nd,ep,no=>nomatch ep
 |j::l,q::pre,p::post,e,nd,ep,no=>by
  have e1:gM os j=some q:=(List.cons.inj e).1
  have e2:=(List.cons.inj e).2
  rw[bO]at e1
  obtain⟨a,o⟩:=q
  obtain⟨b,o'⟩:=p
  rw[FR,FR]at ep
  have hb:b=a:=(List.cons.inj ep).1
  have ep':=(List.cons.inj ep).2
  subst hb
  rw[FR,List.nodup_cons]at nd
  have es:dj os j o'=os.set j (b,o'):=eX _ _ _ e1
  have z:=jA (os:=os.set j (b,o')) (oM e1 e2 nd.1) nd.2 ep' (by rw[eB e1];exact no)
  show(bp (dj os j o') l post).map (·.1)=_∧∀p∈bp (dj os j o') l post,_
  rw[es]
  refine⟨z.1.trans (eB e1),λp hp=>?_⟩
  rcases z.2 p hp with h|⟨h,hn⟩
  ·exact .inl (.tail _ h)
  ·by_cases hpb:p.1=b
   ·have:=iF no e1 h hpb
    exact .inl (this▸.head _)
   ·rcases fw e1 h with rfl|h
    ·exact absurd rfl hpb
    ·refine .inr ⟨h,?_⟩
     rw[FR,FY,not_or]
     exact⟨hpb,hn⟩
noncomputable def cg(n:Nat):List Nat→Bool
 |[]=>true
 |j::l=>Nat.ble n j&&(l.all λi=>!(Nat.beq i j))&&cg n l
theorem hI{os:ah}(nd:(os.map (·.1)).Nodup):∀{n:Nat}{sel:List Nat}{l:ah},cg n sel=true→bu os sel=l.map some→(l.map (·.1)).Nodup∧∀p∈l,∃j,j∈sel∧n≤j∧os[j]?=some p
 |_,[],[],_,_=>⟨List.nodup_nil,λ_ h=>nomatch h⟩
 |_,[],_::_,_,e=>nomatch e
 |_,_::_,[],_,e=>nomatch e
 |n,j::sel,q::l,ok,e=>by
  have e1:gM os j=some q:=(List.cons.inj e).1
  rw[bO]at e1
  simp only[cg,Bool.and_eq_true,List.all_eq_true,Bool.not_eq_true']at ok
  obtain⟨⟨h1,h2⟩,h3⟩:=ok
  obtain⟨a1,a2⟩:=hI nd h3 (List.cons.inj e).2
  refine⟨?_,λp hp=>?_⟩
  ·rw[FR,List.nodup_cons]
   refine⟨λhm=>?_,a1⟩
   obtain⟨p,hp,he⟩:=FX.mp hm
   obtain⟨i,hi,_,hpi⟩:=a2 p hp
   have hij:i=j:=by
    have u1:(os.map (·.1))[i]?=some p.1:=by rw[List.getElem?_map,hpi];rfl
    have u2:(os.map (·.1))[j]?=some p.1:=by rw[List.getElem?_map,e1,he];rfl
    have hlt:i<(os.map (·.1)).length:=(List.getElem?_eq_some_iff.mp u1).1
    exact(List.getElem?_inj hlt nd).mp (u1.trans u2.symm)
   have:=h2 i hi
   rw[hij]at this
   simp at this
  ·rcases FY.mp hp with rfl|hp
   ·exact⟨j,.head _,Nat.le_of_ble_eq_true h1,e1⟩
   ·obtain⟨i,hi,hn,he⟩:=a2 p hp
    exact⟨i,.tail _ hi,hn,he⟩
theorem d7{w:World}{hb hp h':Heap}{m0:cM}{oo fr frR:ah}{nx:Nat}{sel:List Nat}{preF preR postF new postR:ah}(H₀:aI (bo w) hb m0 hp (oo++fr) nx)(hsel:bu oo sel=preF.map some)(hfr:fr.Perm (preR++frR))
  (nd:((preF++preR).map (·.1)).Nodup) (hpm:postF.map (·.1)=preF.map (·.1)) (hpost:k8 h' (postF++new++postR)) (hnl:∀p∈postF++new++postR,p.1∈(preF++preR).map (·.1)∨hp.objs.size≤p.1) (hnn:((postF++new++postR).map (·.1)).Nodup)
  {fs:List Addr} (hf1:∀a∈fs,a∈m0.fs) (hf2:∀p∈oo++fr,p.1∉fs) (hf3:∀a∈fs,sQ w a) (hk:iX hp h' ⟨(preF++preR).map (·.1),fs⟩):aI (bo w) hb m0 h' ((bp oo sel postF++new)++(postR++frR)) h'.objs.size:=by
 have H:=H₀.perm (List.Perm.append_left oo hfr)
 have hk1:∀b o,hp.get? b=some o→b∉(preF++preR).map (·.1)→b∉fs→h'.get? b=some o:=λb o e hn=>(hk.1 b o e hn).1
 have hf2':∀p∈oo++(preR++frR),p.1∉fs:=λp hp'=>hf2 p ((List.Perm.append_left oo hfr).mem_iff.mpr hp')
 have hsz:hp.objs.size=nx:=H.size
 have ndO:(oo.map (·.1)).Nodup:=by have:=H.nd;rw[FM]at this;exact(List.nodup_append.mp this).1
 have ndF:((preR++frR).map (·.1)).Nodup:=by have:=H.nd;rw[FM]at this;exact(List.nodup_append.mp this).2.1
 have disO:∀a∈oo.map (·.1),∀b∈(preR++frR).map (·.1),a≠b:=by have:=H.nd;rw[FM]at this;exact(List.nodup_append.mp this).2.2
 have disR:∀a∈preR.map (·.1),∀b∈frR.map (·.1),a≠b:=by have:=ndF;rw[FM]at this;exact(List.nodup_append.mp this).2.2
 have ndR:(frR.map (·.1)).Nodup:=by have:=ndF;rw[FM]at this;exact(List.nodup_append.mp this).2.1
 have nd1:(preF.map (·.1)).Nodup:=by rw[FM]at nd;exact(List.nodup_append.mp nd).1
 obtain⟨pm,pmem⟩:=jA hsel nd1 hpm ndO
 have inO:∀a,a∈preF.map (·.1)→a∈oo.map (·.1):=λa ha=>by
  obtain⟨p,hp',rfl⟩:=FX.mp ha
  exact FP (gg hsel p hp')
 have ltp:∀p∈oo++(preR++frR),p.1<hp.objs.size:=λp h=>Heap.lt_size (H.own p h)
 have lta:∀a∈(oo++(preR++frR)).map (·.1),a<hp.objs.size:=λa ha=>by
  obtain⟨p,hp',rfl⟩:=FX.mp ha
  exact ltp p hp'
 have nn2:((new++postR).map (·.1)).Nodup∧∀a∈preF.map (·.1),∀b∈(new++postR).map (·.1),a≠b:=by
  rw[FV,FM,hpm]at hnn
  exact(List.nodup_append.mp hnn).2
 have cls:∀p∈new++postR,p.1∈preR.map (·.1)∨hp.objs.size≤p.1:=λp h=>by
  have hm:p∈postF++new++postR:=by rw[FV];exact FO _ h
  rcases hnl p hm with q|q
  ·rw[FM]at q
   rcases F0.mp q with q|q
   ·exact absurd rfl (nn2.2 _ q p.1 (FP h))
   ·exact .inl q
  ·exact .inr q
 have kO:∀p∈oo,p.1∉preF.map (·.1)→p.1∉(preF++preR).map (·.1):=λp h hn hm=>by
  rw[FM]at hm
  rcases F0.mp hm with q|q
  ·exact hn q
  ·exact disO p.1 (FP h) p.1 (by rw[FM];exact FN _ q) rfl
 have kR:∀p∈frR,p.1∉(preF++preR).map (·.1):=λp h hm=>by
  rw[FM]at hm
  rcases F0.mp hm with q|q
  ·exact disO p.1 (inO _ q) p.1 (by rw[FM];exact FO _ (FP h)) rfl
  ·exact disR p.1 q p.1 (FP h) rfl
 have inAll:∀a,a∈(preF++preR).map (·.1)→∃q∈oo++(preR++frR),q.1=a:=λa ha=>by
  rw[FM]at ha
  rcases F0.mp ha with q|q
  ·obtain⟨p,h1,h2⟩:=FX.mp (inO a q)
   exact⟨p,FN _ h1,h2⟩
  ·obtain⟨p,h1,h2⟩:=FX.mp q
   exact⟨p,FO _ (FN _ h1),h2⟩
 have lowp:∀p∈bp oo sel postF,p.1∈oo.map (·.1):=λp hp'=>pm▸FP hp'
 have four:∀p∈(bp oo sel postF++new)++(postR++frR),p∈bp oo sel postF∨p∈new++postR∨p∈frR:=λp h=>by
  rcases F0.mp h with h|h
  ·rcases F0.mp h with h|h
   ·exact .inl h
   ·exact .inr (.inl (FN _ h))
  ·rcases F0.mp h with h|h
   ·exact .inr (.inl (FO _ h))
   ·exact .inr (.inr h)
 have from_:∀p∈(bp oo sel postF++new)++(postR++frR),(∃q∈oo++(preR++frR),q.1=p.1)∨hp.objs.size≤p.1:=λp h=>by
  rcases four p h with h|h|h
  ·obtain⟨q,hq,e⟩:=FX.mp (lowp p h)
   exact .inl ⟨q,FN _ hq,e⟩
  ·rcases cls p h with q|q
   ·obtain⟨p',h1,h2⟩:=FX.mp q
    exact .inl ⟨p',FO _ (FN _ h1),h2⟩
   ·exact .inr q
  ·exact .inl ⟨p,FO _ (FO _ h),rfl⟩
 refine⟨rfl,λa o e=>hk1 a o (H.st a o e) (λhm=>?_) (λhm=>hf3 a hm o e),λp hp'=>?_,λp hp' o=>?_,?_,λp hp'=>?_,λb o e hb'=>?_,?_⟩
 ·obtain⟨q,hq,e'⟩:=inAll a hm
  exact H.off q hq o (e'▸e)
 ·rcases four p hp' with h|h|h
  ·rcases pmem p h with q|⟨q,qn⟩
   ·exact hpost p (FN _ (FN _ q))
   ·exact hk1 _ _ (H.own p (FN _ q)) (kO p q qn) (hf2' p (FN _ q))
  ·exact hpost p (by rw[FV];exact FO _ h)
  ·exact hk1 _ _ (H.own p (FO _ (FO _ h))) (kR p h) (hf2' p (FO _ (FO _ h)))
 ·rcases from_ p hp' with ⟨q,hq,e⟩|q
  ·exact e▸H.off q hq o
  ·intro e
   exact absurd (Heap.lt_size (H.st _ _ e)) (Nat.not_lt.mpr q)
 ·have e1:((bp oo sel postF++new)++(postR++frR)).map (·.1)=oo.map (·.1)++((new++postR).map (·.1)++frR.map (·.1)):=by
   simp only[FM,pm,FV]
  rw[e1]
  have dn:∀a∈(new++postR).map (·.1),a∈preR.map (·.1)∨hp.objs.size≤a:=λa ha=>by
   obtain⟨p,h1,rfl⟩:=FX.mp ha
   exact cls p h1
  refine List.nodup_append.mpr ⟨ndO,List.nodup_append.mpr ⟨nn2.1,ndR,λa ha b hb'=>?_⟩,λa ha b hb'=>?_⟩
  ·rcases dn a ha with q|q
   ·exact disR a q b hb'
   ·have:=lta b (by simp only[FM];exact FO _ (FO _ hb'))
    exactλe=>absurd (Nat.lt_of_lt_of_le this (e▸q)) (Nat.lt_irrefl _)
  ·rcases F0.mp hb' with hb'|hb'
   ·rcases dn b hb' with q|q
    ·exact disO a ha b (by rw[FM];exact FN _ q)
    ·have:=lta a (by simp only[FM];exact FN _ ha)
     exactλe=>absurd (Nat.lt_of_lt_of_le this (e▸q)) (Nat.lt_irrefl _)
   ·exact disO a ha b (by rw[FM];exact FO _ hb')
 ·rcases from_ p hp' with ⟨q,hq,e⟩|q
  ·exact e▸H.low q hq
  ·exact .inr (Nat.le_trans (hsz▸H.grow) q)
 ·have hn:b∉(preF++preR).map (·.1):=λhm=>by
   obtain⟨q,hq,e'⟩:=inAll b hm
   rcases H.low q hq with z|z
   ·exact hb' (e'▸z)
   ·exact absurd (Heap.lt_size e) (Nat.not_lt.mpr (e'▸z))
  obtain⟨k1,sl,k2⟩:=H.keep b o e hb'
  obtain⟨_,sl2,k3⟩:=hk.1 b _ k2 hn
  exact⟨λhf=>hk1 b o (k1 hf) hn (λhm=>hf (hf1 b hm)),sl2,k3⟩
 ·exact Nat.le_trans H.grow (hsz▸hk.2)
theorem j1{w:World}{hb hp h':Heap}{m0:cM}{oo fr frR:ah}{nx:Nat}{sel:List Nat}{preF preR postF new postR:ah}(H₀:aI (bo w) hb m0 hp (oo++fr) nx)(hsel:bu oo sel=preF.map some)(hfr:fr.Perm (preR++frR))
  (nd:((preF++preR).map (·.1)).Nodup) (hpm:postF.map (·.1)=preF.map (·.1)) (hpost:k8 h' (postF++new++postR)) (hnl:∀p∈postF++new++postR,p.1∈(preF++preR).map (·.1)∨hp.objs.size≤p.1) (hnn:((postF++new++postR).map (·.1)).Nodup)
  (hk:iX hp h' (md ((preF++preR).map (·.1)))):aI (bo w) hb m0 h' ((bp oo sel postF++new)++(postR++frR)) h'.objs.size:=
 d7 H₀ hsel hfr nd hpm hpost hnl hnn (fs:=[]) (λ_ h=>absurd h FU) (λ_ _ h=>absurd h FU) (λ_ h=>absurd h FU) hk
theorem jv{kt:Addr→Option Obj}{hb h:Heap}{m0:cM}{oo fr frR preF preR:ah}{nx:Nat}{sel:List Nat}(H:aI kt hb m0 h (oo++fr) nx)(hs:cg 0 sel=true)(hsel:bu oo sel=preF.map some)(hfr:fr.Perm (preR++frR)):((preF++preR).map (·.1)).Nodup:=by
 have H':=(H.perm (List.Perm.append_left oo hfr)).nd
 rw[FM]at H'
 obtain⟨n1,n2,n3⟩:=List.nodup_append.mp H'
 rw[FM]at n2
 rw[FM]
 refine List.nodup_append.mpr ⟨(hI n1 hs hsel).1,(List.nodup_append.mp n2).1,λa ha b hb'=>?_⟩
 obtain⟨p,hp',rfl⟩:=FX.mp ha
 exact n3 _ (FP (gg hsel p hp')) b (by rw[FM];exact FN _ hb')
theorem dg{oo fr frR preF preR:ah}{sel:List Nat}(hsel:bu oo sel=preF.map some)(hfr:fr.Perm (preR++frR)):∀p∈preF++preR,p∈oo++fr:=λp h=>by
 rcases F0.mp h with h|h
 ·exact FN _ (gg hsel p h)
 ·exact FO _ (hfr.mem_iff.mpr (FN _ h))
noncomputable def pS(L' L:Nat):Bool:=Nat.ble (L'+1) L&&Nat.ble L 20
theorem lS{a L' L:Nat}(h:pS L' L=true)(ha:a≤DL L):a+40≤DL L':=by
 unfold pS at h
 rw[Bool.and_eq_true]at h
 have h1:=Nat.le_of_ble_eq_true h.1
 have h2:=Nat.le_of_ble_eq_true h.2
 unfold DL at ha⊢
 lia
theorem lU{a L' L:Nat}(h:pS L' L=true)(ha:a≤UL L):a+100≤UL L':=by
 unfold pS at h
 rw[Bool.and_eq_true]at h
 have h1:=Nat.le_of_ble_eq_true h.1
 have h2:=Nat.le_of_ble_eq_true h.2
 unfold UL at ha⊢
 lia
theorem Rm.deep{A:Around}{L:Nat}{hd:Option Value}(Z:Rm A L hd):A.depth≤940:=Nat.le_trans Z.d (Nat.sub_le _ _)
theorem aV(w:World):∀h,cb w h→937≤h.objs.size:=λh st=>Heap.lt_size (st 936 _ (by kernel_rfl:bo w 936=some (xc w.params)))
noncomputable abbrev fP(w:World)(hd:Option Value)(A:Around)(R:Result→Shared→Prop)(d:Drawn)(os:OsState)(hb:Heap)(m0:cM):Prop:=∀g fr',nN (ag w hd) (aG w A R d os hb m0 g fr')
noncomputable def dh(s:St):Bool:=cG s.T&&(match b9 s.T with|none=>true|some _=>false)&&Nat.ble (n7 s.K+wt s.C) 40&&Nat.ble (sP s.K+un s.C) 100
theorem dK{s:St}(h:dh s=true):cG s.T=true∧b9 s.T=none∧n7 s.K+wt s.C≤40∧sP s.K+un s.C≤100:=by
 unfold dh at h
 simp only[Bool.and_eq_true]at h
 refine⟨h.1.1.1,?_,Nat.le_of_ble_eq_true h.1.2,Nat.le_of_ble_eq_true h.2⟩
 cases e:b9 s.T with
 |none=>rfl
 |some _=>rw[e]at h;cases h.1.1.2
section
variable{w:World}{hd:Option Value}{A:Around}{R:Result→Shared→Prop}{d:Drawn}{os:OsState}{hb:Heap}{m0:cM}{g:Array GenState}{fr:ah}{s:St}{L L':Nat}{c:Code}
theorem da(F:fP w hd A R d os hb m0)(n pl:Nat)(h:let sS:=(go (ag w hd) n pl s);Gd (aG w A R d os hb m0 g fr) sS.S)(ok:(go (ag w hd) n pl s).Y=true:=by kernel_rfl)(ab:(go (ag w hd) n pl s).A=(go (ag w hd) n pl s).B:=by kernel_rfl):Gd (aG w A R d os hb m0 g fr) s:=
 eI (F g fr) n pl ok ab h
theorem ex(F:fP w hd A R d os hb m0)(Z:Rm A L hd)(n pl:Nat)(h:let sS:=((go (ag w hd) n pl s).S.mapT (bW w.params));Gd (aG w A R d os hb m0 g fr) sS)(ok:((go (ag w hd) n pl s).Y&&Nat.ble (n7 (go (ag w hd) n pl s).S.K+wt (go (ag w hd) n pl s).S.C) 40)=true:=by kernel_rfl)(ab:(go (ag w hd) n pl s).A=(go (ag w hd) n pl s).B:=by kernel_rfl)(hs:(go (ag w hd) n pl s).S.T=PySem.W.R.bindR dy λ_=>bW w.params (go (ag w hd) n pl s).S.T:=by kernel_rfl):Gd (aG w A R d os hb m0 g fr) s:=by
 rw[Bool.and_eq_true]at ok
 exact eI (F g fr) n pl ok.1 ab (tG hs ok.2 Z.deep h)
theorem sx(F:fP w hd A R d os hb m0)(n pl:Nat)(ok:(go (ag w hd) n pl s).Y=true)(ab:(go (ag w hd) n pl s).A=(go (ag w hd) n pl s).B)(t₁ t₂:Sem Fin)(e₁:(go (ag w hd) n pl s).S.T=t₁)(e₂:t₁=t₂)
  (h:Gd (aG w A R d os hb m0 g fr) ((go (ag w hd) n pl s).S.setT t₂)):Gd (aG w A R d os hb m0 g fr) s:=by
 refine eI (F g fr) n pl ok ab ?_
 revert h e₁
 generalize (go (ag w hd) n pl s).S=s'
 intro e₁ h
 obtain⟨c,κ,t,os,nx,tk⟩:=s'
 have e₁:t=t₁:=e₁
 subst e₁ e₂
 exact h
theorem wk{g:GB}{X:Type}{C:Nat→X→Prop}{r:X→Result}(Z:Rm A L hd){hd':Option Value}(preF preR frR:ah)(postF new postR:X→ah)
  (S:Spec w L' hd' c (preF++preR) C r λx=>postF x++new x++postR x) (sel:List Nat) (hfr:fr.Perm (preR++frR)) (hs:cg 0 sel=true) (hpm:∀x,(postF x).map (·.1)=preF.map (·.1)) (hl:pS L' L=true)
  (ic:dh s=true) (ec:ce s.T=c) (hh:aB hd s.K=hd') (hsel:bu s.O sel=preF.map some)
  (h:∀(x:X)(m tk:Nat)(g':GB),s.N≤m+937→C s.N x→Gd (aG w A R d os hb m0 g' (postR x++frR)) (s.next (λt=>cu t (r x)) (λos=>bp os sel (postF x)++new x) (m+937) tk)):Gd (aG w A R d os hb m0 g fr) s:=by
 obtain⟨ic,eh,ed,eu⟩:=dK ic
 have ic:cG s.t=true:=ic
 have ec:ce s.t=c:=ec
 have eh:b9 s.t=none:=eh
 have hsel:bu s.os sel=preF.map some:=hsel
 have hh:aB hd s.κ=hd':=hh
 have ed:n7 s.κ+wt s.c≤40:=ed
 have eu:sP s.κ+un s.c≤100:=eu
 have h:∀(x:X)(m tk:Nat)(g':GB),s.nx≤m+937→C s.nx x→Gd (aG w A R d os hb m0 g' (postR x++frR)) ⟨s.c,s.κ,cu s.t (r x),bp s.os sel (postF x)++new x,m+937,tk⟩:=h
 refine⟨λhp H=>?_⟩
 have H:aI (bo w) hb m0 hp (s.os++fr) s.nx:=H
 obtain⟨gd,l,sh⟩:=ci ic
 show wpOwn _ _ _ s.t _ _ _
 rw[sh,ec,eh]
 refine y_call _ _ _ _ _ _ _ _ _ _ _ _ _ (by intro e;cases e) ?_
 have hdep:=eK (bF w A R d os) s.κ
 have hun:=gn (bF w A R d os) s.κ
 have e1:s.c.weight=wt s.c:=by rw[fJ]
 have e2:s.c.cUnits=un s.c:=by rw[gO]
 have e3:(bF w A R d os).A₀.depth=A.depth:=rfl
 have e4:(bF w A R d os).A₀.units=A.units:=rfl
 have hD:=lS hl Z.d
 have hU:=lU hl Z.u
 have hhd:((aroundOf (bF w A R d os) true s.κ).under s.c|>.mark none).handled=hd':=by
  show(none:Option Value).or (aroundOf (bF w A R d os) true s.κ).handled=hd'
  rw[bv]
  show aB A.handled s.κ=hd'
  rw[Z.h,hh]
 have nd:=jv H hs hsel hfr
 have z:=S (((aroundOf (bF w A R d os) true s.κ).under s.c).mark none) hp g d s.tk os ⟨hhd,
  (by show(aroundOf (bF w A R d os) true s.κ).depth+s.c.weight≤DL L';lia),(by show(aroundOf (bF w A R d os) true s.κ).units+s.c.cUnits≤UL L';lia)⟩
  H.st (λp hpm=>H.own p (dg hsel hfr p hpm)) (λp hpm=>H.off p (dg hsel hfr p hpm)) nd
 refine codeAny_mono z λr' s' hr=>?_
 obtain⟨x,h',tk',g',rfl,hC,hpost,hnl,hnn,hk⟩:=hr
 have hsz:hp.objs.size=s.nx:=H.size
 have hbg:937≤hp.objs.size:=aV w hp H.st
 obtain⟨m,hm⟩:∃m,h'.objs.size=m+937:=⟨h'.objs.size-937,by have:=hk.2;lia⟩
 have A':=j1 H hsel hfr nd (hpm x) hpost hnl hnn hk
 rw[hm]at A'
 exact(h x m tk' g' (by rw[←hm,←hsz];exact hk.2) (hsz▸hC)).run h' A'
theorem cf{g:GB}{X:Type}{C:Nat→X→Prop}{r:X→Result}(F:fP w hd A R d os hb m0)(Z:Rm A L hd)(n pl:Nat){hd':Option Value}(preF preR frR:ah)(postF new postR:X→ah)(S:Spec w L' hd' c (preF++preR) C r λx=>postF x++new x++postR x)(sel:List Nat)(hfr:fr.Perm (preR++frR))(h:∀(x:X)(m tk:Nat)(g':GB),C (go (ag w hd) n pl s).S.N x→let sS:=((go (ag w hd) n pl s).S.next (λt=>cu t (r x)) (λos=>bp os sel (postF x)++new x) (m+937) tk);Gd (aG w A R d os hb m0 g' (postR x++frR)) sS)(hpm:∀x,(postF x).map (·.1)=preF.map (·.1):=by exactλ_=>rfl)(ok:((go (ag w hd) n pl s).Y&&(cg 0 sel&&(pS L' L&&dh (go (ag w hd) n pl s).S)))=true:=by kernel_rfl)(ab:(go (ag w hd) n pl s).A=(go (ag w hd) n pl s).B:=by kernel_rfl)(ec:ce (go (ag w hd) n pl s).S.T=c:=by kernel_rfl)(hh:aB hd (go (ag w hd) n pl s).S.K=hd':=by kernel_rfl)(hsel:bu (go (ag w hd) n pl s).S.O sel=preF.map some:=by kernel_rfl):Gd (aG w A R d os hb m0 g fr) s:=by
 simp only[Bool.and_eq_true]at ok
 exact eI (F g fr) n pl ok.1 ab (wk Z preF preR frR postF new postR S sel hfr ok.2.1 hpm ok.2.2.1 ok.2.2.2 ec hh hsel λx m tk g' _=>h x m tk g')
theorem cx{g:GB}{X:Type}{C:Nat→X→Prop}{r:X→Result}{pre:ah}{post:X→ah}(F:fP w hd A R d os hb m0)(Z:Rm A L hd)(n pl:Nat){hd':Option Value}(S:Spec w L' hd' c pre C r post)(sel:List Nat)(h:∀(x:X)(m tk:Nat)(g':GB),C (go (ag w hd) n pl s).S.N x→let sS:=((go (ag w hd) n pl s).S.next (λt=>cu t (r x)) (λos=>pX os sel (post x)) (m+937) tk);Gd (aG w A R d os hb m0 g' fr) sS)(hpm:∀x,((post x).take sel.length).map (·.1)=pre.map (·.1):=by exactλ_=>rfl)(ok:((go (ag w hd) n pl s).Y&&(cg 0 sel&&(pS L' L&&dh (go (ag w hd) n pl s).S)))=true:=by kernel_rfl)(ab:(go (ag w hd) n pl s).A=(go (ag w hd) n pl s).B:=by kernel_rfl)(ec:ce (go (ag w hd) n pl s).S.T=c:=by kernel_rfl)(hh:aB hd (go (ag w hd) n pl s).S.K=hd':=by kernel_rfl)(hsel:bu (go (ag w hd) n pl s).S.O sel=pre.map some:=by kernel_rfl):Gd (aG w A R d os hb m0 g fr) s:=
 cf F Z n pl pre [] fr (λx=>(post x).take sel.length) (λx=>(post x).drop sel.length) (λ_=>[]) (by simpa only [FK,List.take_append_drop]using S) sel (FL _) (λx m tk g' hC=>by rw[←nr];exact h x m tk g' hC) hpm ok ab ec hh hsel
noncomputable def oR:Sem Fin→Option Result
 |.pure (.done f)=>some (.ok f)
 |.raise e=>some (.error e)
 |_=>none
noncomputable def dM:Kont→Bool
 |.base=>true
 |_=>false
theorem uY{t:Sem Fin}{r:Result}:oR t=some r→t=leafOf r:=by
 apply@Sem.casesOn Fin (λt=>oR t=some r→t=leafOf r) t<;>intros
 case pure f h=>cases f<;>first|(cases h;rfl)|cases h
 case raise h=>cases h;rfl
 all_goals (rename_i h;exact Option.noConfusion rfl (heq_of_eq h))
theorem mA{κ:Kont}(h:dM κ=true):κ=.base:=by
 cases κ<;>first|rfl|cases h
theorem i9{r:Result}(hr:oR s.T=some r)(hk:dM s.K=true)
  (h:∀hp,aI (bo w) hb m0 hp (s.O++fr) s.N→R r ⟨hp,g,d,s.J,os⟩):Gd (aG w A R d os hb m0 g fr) s:=by
 refine⟨λhp H=>?_⟩
 have z:=h hp H
 obtain⟨c,κ,t,oss,nx,tk⟩:=s
 obtain rfl:κ=.base:=mA hk
 obtain rfl:t=leafOf r:=uY hr
 cases r with
 |ok=>exact y_pure _ _ _ _ _ _ _ _ _ (y_done _ _ _ _ _ _ z)
 |error=>exact y_raise _ _ _ _ _ _ _ _ _ (y_err _ _ _ z)
theorem aI.kept{kt:Addr→Option Obj}{hb h:Heap}{m0:cM}{os:ah}{nx:Nat}(H:aI kt hb m0 h os nx):iX hb h m0:=⟨H.keep,H.size▸H.grow⟩
noncomputable def dC:Sem Fin→Bool
 |.pure (.again _)=>true
 |_=>false
noncomputable def ff:Sem Fin→Code
 |.pure (.again c)=>c
 |_=>.block [] default
theorem nR{t:Sem Fin}{c:Code}:dC t=true→ff t=c→t=.pure (.again c):=by
 apply@Sem.casesOn Fin (λt=>dC t=true→ff t=c→t=.pure (.again c)) t<;>intros
 case pure f h e=>cases f<;>first|(cases e;rfl)|cases h
 all_goals (rename_i h _;exact Bool.noConfusion h)
noncomputable def uX:Sem Fin→Result
 |.pure (.done f)=>.ok f
 |.raise e=>.error e
 |_=>.ok .next
noncomputable def B6:Result→Value
 |.ok (.ret v)=>v
 |.error e=>e
 |_=>.none
noncomputable def iO:Value→Tok
 |.int _ t=>t
 |.str _ t=>t
 |.bytes _ t=>t
 |_=>0
variable{X:Type}{C:Nat→X→Prop}{r:X→Result}{post:X→ah}{nb:Nat}
noncomputable abbrev jF(d:Drawn)(os:OsState)(hb:Heap)(nb:Nat)(m0:cM){X:Type}(C:Nat→X→Prop)(r:X→Result)(post:X→ah)(R:Result→Shared→Prop):Prop:=hb.objs.size=nb∧∀r' s',bj d os hb nb m0 C r post r' s'→R r' s'
theorem fx{g:GB}(F:fP w hd A R d os hb m0)(E:jF d os hb nb m0 C r post R)(n pl:Nat)(sel:List Nat)(x:X)(postF postR frR:ah)(hfr:fr.Perm (postR++frR))(he:post x=postF++postR)(hC:C nb x)(ok:((go (ag w hd) n pl s).Y&&(cg 0 sel&&dM (go (ag w hd) n pl s).S.K))=true:=by kernel_rfl)(ab:(go (ag w hd) n pl s).A=(go (ag w hd) n pl s).B:=by kernel_rfl)(hr:oR (go (ag w hd) n pl s).S.T=some (r x):=by kernel_rfl)(hsel:bu (go (ag w hd) n pl s).S.O sel=postF.map some:=by kernel_rfl):Gd (aG w A R d os hb m0 g fr) s:=by
 simp only[Bool.and_eq_true]at ok
 refine eI (F g fr) n pl ok.1 ab (i9 hr ok.2.2 λhp H=>E.2 _ _ ⟨x,hp,_,_,rfl,hC,?_,?_,?_,H.kept⟩)
 ·rw[he]
  exactλp h=>H.own p (dg hsel hfr p h)
 ·rw[he]
  exactλp h=>E.1▸H.low p (dg hsel hfr p h)
 ·rw[he]
  exact jv H ok.2.1 hsel hfr
theorem fs{g:GB}(F:fP w hd A R d os hb m0)(E:jF d os hb nb m0 C r post R)(n pl:Nat)(sel:List Nat)(xf:Result→ah→Nat→X)
  (ok:((go (ag w hd) n pl s).Y&&(cg 0 sel&&dM (go (ag w hd) n pl s).S.K))=true) (ab:(go (ag w hd) n pl s).A=(go (ag w hd) n pl s).B)
  (hr:oR (go (ag w hd) n pl s).S.T=some (r (xf (uX (go (ag w hd) n pl s).S.T) (go (ag w hd) n pl s).S.O (go (ag w hd) n pl s).S.J)))
  (hsel:bu (go (ag w hd) n pl s).S.O sel=(post (xf (uX (go (ag w hd) n pl s).S.T) (go (ag w hd) n pl s).S.O (go (ag w hd) n pl s).S.J)).map some)
  (hC:C nb (xf (uX (go (ag w hd) n pl s).S.T) (go (ag w hd) n pl s).S.O (go (ag w hd) n pl s).S.J)):Gd (aG w A R d os hb m0 g fr) s:=
 fx F E n pl sel _ (post _) [] fr (FL _) (FK _).symm hC ok ab hr hsel
theorem ax{g:GB}(F:fP w hd A R d os hb m0)(E:jF d os hb nb m0 C r post R)(Z:Rm A L hd)(n pl:Nat){X':Type}{C':Nat→X'→Prop}{r':X'→Result}{post':X'→ah}(preF preR frR:ah)(S:Spec w L hd c (preF++preR) C' r' post')(sel:List Nat)(hfr:fr.Perm (preR++frR))(h:∀n x',nb≤n→C' n x'→∃x,C nb x∧r' x'=r x∧(∀p∈post x,p∈post' x')∧(((post' x').map (·.1)).Nodup→((post x).map (·.1)).Nodup))(ok:((go (ag w hd) n pl s).Y&&(cg 0 sel&&(qq c&&(dC (go (ag w hd) n pl s).S.T&&dM (go (ag w hd) n pl s).S.K))))=true:=by kernel_rfl)(ab:(go (ag w hd) n pl s).A=(go (ag w hd) n pl s).B:=by kernel_rfl)(ec:ff (go (ag w hd) n pl s).S.T=c:=by kernel_rfl)(hsel:bu (go (ag w hd) n pl s).S.O sel=preF.map some:=by kernel_rfl):Gd (aG w A R d os hb m0 g fr) s:=by
 simp only[Bool.and_eq_true]at ok
 refine eI (F g fr) n pl ok.1 ab ?_
 obtain⟨_,hs,hq,ic,hkb⟩:=ok
 revert hsel ec ic hkb
 generalize (go (ag w hd) n pl s).S=s'
 intro ec hsel ic hkb
 refine⟨λhp H=>?_⟩
 obtain⟨c',κ,t,oo,nx,tk⟩:=s'
 have ic:dC t=true:=ic
 have ec:ff t=c:=ec
 have hkb:dM κ=true:=hkb
 have hsel:bu oo sel=preF.map some:=hsel
 have H:aI (bo w) hb m0 hp (oo++fr) nx:=H
 obtain rfl:κ=.base:=mA hkb
 obtain rfl:t=.pure (.again c):=nR ic ec
 refine y_pure _ _ _ _ _ _ _ _ _ (y_again _ _ _ _ _ _ (by rw[oP];exact hq) ?_)
 have nd:=jv H hs hsel hfr
 refine codeAny_mono (S A hp g d tk os Z H.st (λp hpm=>H.own p (dg hsel hfr p hpm)) (λp hpm=>H.off p (dg hsel hfr p hpm)) nd) λr'' s' hr=>?_
 obtain⟨x,h',tk',g',rfl,hC,hpost,hnl,hnn,hk⟩:=hr
 have hsz:hp.objs.size=nx:=H.size
 have hge:nb≤hp.objs.size:=E.1▸(hsz▸H.grow)
 obtain⟨x2,hC2,er,hs2,hn2⟩:=h _ x hge hC
 have lowp:∀a∈(preF++preR).map (·.1),a∈m0.l∨hb.objs.size≤a:=λa ha=>by
  obtain⟨p,hp',rfl⟩:=FX.mp ha
  exact H.low p (dg hsel hfr p hp')
 refine E.2 _ _ ⟨x2,h',tk',g',er,hC2,λp hp'=>hpost p (hs2 p hp'),λp hp'=>?_,hn2 hnn,λb o e hb'=>?_,Nat.le_trans (hsz▸H.grow) hk.2⟩
 ·rcases hnl p (hs2 p hp')with z|z
  ·exact E.1▸lowp _ z
  ·exact .inr (Nat.le_trans hge z)
 ·have hn:b∉(preF++preR).map (·.1):=λhm=>by
   rcases lowp b hm with z|z
   ·exact hb' z
   ·exact absurd (Heap.lt_size e) (Nat.not_lt.mpr z)
  obtain⟨k1,sl,k2⟩:=H.keep b o e hb'
  exact⟨λhf=>(hk.1 b o (k1 hf) hn).1 (FU),sl,(hk.1 b _ k2 hn).1 (FU)⟩
end
theorem aA{w:World}{L:Nat}{hd:Option Value}{c:Code}(pre fr:ah){X:Type}{C:Nat→X→Prop}{r:X→Result}{post:X→ah}
  (h:∀(A:Around)(R:Result→Shared→Prop)(d:Drawn)(os:OsState)(hb:Heap)(m0:cM)(g:GB)(tk b:Nat),Rm A L hd→fP w hd A R d os hb m0→jF d os hb (b+937) m0 C r post R→
   Gd (aG w A R d os hb m0 g fr) ⟨c,.base,Dq c,pre,b+937,tk⟩):Spec w L hd c (pre++fr) C r post:=by
 intro A hb g d tk os Z hst hpre hoff nd
 refine y_code _ _ _ _ _ _ ?_
 obtain⟨b,hbe⟩:∃b,hb.objs.size=b+937:=⟨hb.objs.size-937,by have:=aV w hb hst;omega⟩
 have z:=(h A (bj d os hb hb.objs.size (md ((pre++fr).map (·.1))) C r post) d os hb (md ((pre++fr).map (·.1))) g tk b Z (λg fr'=>fits w A _ d os hb _ g fr' hd Z.h) ⟨hbe,λ_ _ z=>by rw[hbe];exact z⟩).run hb
  ⟨hbe,hst,hpre,hoff,nd,λp hp=>.inl (FP hp),λb o e _=>a6 e,hbe▸Nat.le_refl _⟩
 have z':wpOwn (model pw w) A c (Dq c) _ _ _:=z
 rw[lw]at z'
 exact z'
theorem ak{w:World}{L:Nat}{hd:Option Value}{c:Code}{pre:ah}{X:Type}{C:Nat→X→Prop}{r:X→Result}{post:X→ah}
  (h:∀(A:Around)(R:Result→Shared→Prop)(d:Drawn)(os:OsState)(hb:Heap)(m0:cM)(g:GB)(tk b:Nat),Rm A L hd→fP w hd A R d os hb m0→jF d os hb (b+937) m0 C r post R→
   Gd (aG w A R d os hb m0 g []) ⟨c,.base,Dq c,pre,b+937,tk⟩):Spec w L hd c pre C r post:=by
 have z:=aA (w:=w) (L:=L) (hd:=hd) (c:=c) (C:=C) (r:=r) (post:=post) pre [] h
 rwa[FK]at z
end
section
theorem oW{α:Type}{M:Model}{A:Around}{c:Code}{f:Value}{pos:List Value}{gd:Bool}{l:List Value}{k:Result→Sem α}{Q:α→Shared→Prop}{E:Value→Shared→Prop}{s:Shared}
  (h:wpAny M (A.under c) (PySem.call f pos) (λv s'=>wpOwn M A c (k (.ok (.ret v))) Q E s') (λ_ _=>False) s):wpOwn M A c (.call (.call f ⟨pos,[]⟩) none gd l k) Q E s:=λΓ p hc hΓ=>by
 have z:=h Γ p (hc▸hΓ.in)
 refine wpCode_mono (λr s' q=>?_) z
 cases r with
 |ok fl =>
  cases fl with
  |ret v=>exact q Γ p hc hΓ
  |next=>exact False.elim q
  |brk=>exact False.elim q
  |cont=>exact False.elim q
 |error e=>exact False.elim q
section
variable{w:World}{hd:Option Value}{A:Around}{R:Result→Shared→Prop}{d:Drawn}{os:OsState}{hb:Heap}{m0:cM}{g:Array GenState}{fr:ah}{s:St}
theorem xp{f:Value}{pos:List Value}
  (ic:cG s.T=true) (ec:ce s.T=.call f ⟨pos,[]⟩) (eh:b9 s.T=none)
  (h:∀hp,aI (bo w) hb m0 hp (s.O++fr) s.N→wpAny (model pw w) ((aroundOf (bF w A R d os) true s.K).under s.C) (PySem.call f pos)
   (λv s'=>∃(os':ah)(nx':Nat)(h':Heap)(tk':Nat),s'=⟨h',g,d,tk',os⟩∧aI (bo w) hb m0 h' (os'++fr) nx'∧Gd (aG w A R d os hb m0 g fr) (s.next (λt=>cu t (.ok (.ret v))) (λ_=>os') nx' tk')) (λ_ _=>False) ⟨hp,g,d,s.J,os⟩):
  Gd (aG w A R d os hb m0 g fr) s:=by
 refine⟨λhp H=>?_⟩
 have ic:cG s.t=true:=ic
 have ec:ce s.t=.call f ⟨pos,[]⟩:=ec
 have eh:b9 s.t=none:=eh
 obtain⟨gd,l,sh⟩:=ci ic
 show wpOwn _ _ _ s.t _ _ _
 rw[sh,ec,eh]
 refine oW (wpAny_mono (h hp H) (λv s' q=>?_) λ_ _ q=>q)
 obtain⟨os',nx',h',tk',rfl,H',G'⟩:=q
 exact G'.run h' H'
noncomputable def pT(s:St):Bool:=cG s.T&&(match b9 s.T with|none=>true|some _=>false)
theorem sn{s:St}(h:pT s=true):cG s.T=true∧b9 s.T=none:=by
 unfold pT at h
 simp only[Bool.and_eq_true]at h
 refine⟨h.1,?_⟩
 cases e:b9 s.T with
 |none=>rfl
 |some _=>rw[e]at h;cases h.2
theorem px(F:fP w hd A R d os hb m0)(n pl:Nat)(f:Value)(pos:List Value)(V:Tok→Value)
  (rule:∀(B:Around)(hp:Heap),aI (bo w) hb m0 hp ((go (ag w hd) n pl s).S.O++fr) (go (ag w hd) n pl s).S.N→∀(Q:Value→Shared→Prop)(E:Value→Shared→Prop)(k:Nat),(∀k₁ k₂,Q (V k₁) ⟨hp,g,d,k₂,os⟩)→wpAny (model pw w) B (PySem.call f pos) Q E ⟨hp,g,d,k,os⟩)
  (ok:((go (ag w hd) n pl s).Y&&pT (go (ag w hd) n pl s).S)=true) (ab:(go (ag w hd) n pl s).A=(go (ag w hd) n pl s).B) (ec:ce (go (ag w hd) n pl s).S.T=.call f ⟨pos,[]⟩)
  (h:∀k₁ k₂,Gd (aG w A R d os hb m0 g fr) ((go (ag w hd) n pl s).S.nextT (λt=>cu t (.ok (.ret (V k₁)))) k₂)):Gd (aG w A R d os hb m0 g fr) s:=by
 rw[Bool.and_eq_true]at ok
 obtain⟨ic,eh⟩:=sn ok.2
 exact eI (F g fr) n pl ok.1 ab (xp ic ec eh λhp H=>rule _ hp H _ _ _ λk₁ k₂=>⟨_,_,hp,k₂,rfl,H,h k₁ k₂⟩)
end
noncomputable abbrev aL(b:Bool):Sem Fin:=.pure (.done (.ret (.bool b)))
theorem aI.at{kt:Addr→Option Obj}{hb h:Heap}{m0:cM}{os:ah}{nx:Nat}{fr:ah}(H:aI kt hb m0 h (os++fr) nx)(j:Nat){p:Addr×Obj}(e:gM os j=some p):h.get? p.1=some p.2:=
 H.own p (FN _ (List.mem_of_getElem? (by rw[←bO];exact e)))
noncomputable def pN(os:ah)(j:Nat):Option (Addr×Value×Data):=match gM os j with
 |some p=>some (p.1,p.2.cls,p.2.data)
 |none=>none
theorem aI.look{kt:Addr→Option Obj}{hb h:Heap}{m0:cM}{os:ah}{nx:Nat}{fr:ah}(H:aI kt hb m0 h (os++fr) nx)(j:Nat){a:Addr}{c:Value}{d:Data}(e:pN os j=some (a,c,d)):∃o,h.get? a=some o∧o.cls=c∧o.data=d:=by
 unfold pN at e
 split at e
 ·rename_i p hp
  cases e
  exact⟨p.2,H.at j hp,rfl,rfl⟩
 ·cases e
end
noncomputable abbrev ae(es:List DictEntry)(ep:Nat):Obj:=⟨.type SL.s14018661285674007319x4,none,.dict ⟨es⟩ ep,⟨[]⟩⟩
noncomputable abbrev aa(vs:List Value)(ep:Nat):Obj:=⟨.type SL.s9222952809800978799x4,none,.seq ⟨vs⟩ ep,⟨[]⟩⟩
noncomputable abbrev aW(vs:List Value):Obj:=⟨.type SL.s2766695959194262286x5,none,.seq ⟨vs⟩ 0,⟨[]⟩⟩
noncomputable abbrev ap(c d:Addr):Obj:=⟨.ref c,some d,.plain,⟨[]⟩⟩
noncomputable abbrev tW(P:Params)(k1 k2 k3 t1 t2 t3:Tok)(S:Str)(p:Int)(ep:Nat):Obj:=ae [de P (u [95,83,116,114,105,110,103,73,79,95,95,110,101,119,108,105,110,101]) k1 (.str (u [10]) t1),de P (u [95,83,116,114,105,110,103,73,79,95,95,98,117,102]) k2 (.str S t2),de P (u [95,83,116,114,105,110,103,73,79,95,95,112,111,115]) k3 (.int p t3)] ep
noncomputable abbrev au(P:Params)(k1 k2 k3 k4 t3 t4:Tok)(n2i:Addr)(ready:Value)(out fin:Int)(ep:Nat):Obj:=ae [de P (u [95,110,111,100,101,50,105,110,102,111]) k1 (.ref n2i),de P (u [95,114,101,97,100,121,95,110,111,100,101,115]) k2 ready,de P (u [95,110,112,97,115,115,101,100,111,117,116]) k3 (.int out t3),de P (u [95,110,102,105,110,105,115,104,101,100]) k4 (.int fin t4)] ep
noncomputable abbrev eg(d:Addr)(S:Str)(t:Tok)(n:Int)(t':Tok)(l:Addr):Obj:=⟨.ref 70,some d,.plain,⟨[some (.str S t),some (.int n t'),some (.ref l)]⟩⟩
theorem aI.sub{kt:Addr→Option Obj}{hb h:Heap}{m0:cM}{os os':ah}{nx:Nat}(H:aI kt hb m0 h os nx)(hs:∀p∈os',p∈os)(nd:(os'.map (·.1)).Nodup):aI kt hb m0 h os' nx:=
 ⟨H.size,H.st,λp hp=>H.own p (hs p hp),λp hp=>H.off p (hs p hp),nd,λp hp=>H.low p (hs p hp),H.keep,H.grow⟩
noncomputable def fI(os:ah):List Nat→ah
 |[]=>[]
 |j::l=>match gM os j with
  |some p=>p::fI os l
  |none=>fI os l
noncomputable def qG:List (Option (Addr×Obj))→Bool
 |[]=>true
 |none::_=>false
 |some _::l=>qG l
theorem oL{os:ah}:∀{sel:List Nat},qG (bu os sel)=true→bu os sel=(fI os sel).map some
 |[],_=>rfl
 |j::l,h=>by
  unfold bu at h⊢
  unfold fI
  cases e:gM os j with
  |none=>rw[e]at h;cases h
  |some p =>
   rw[e]at h
   show some p::bu os l=(p::fI os l).map some
   rw[oL (sel:=l) h]
   rfl
theorem jz(os:ah):∀(a b:List Nat),bu os (a++b)=bu os a++bu os b
 |[],_=>rfl
 |j::a,b=>by
  show gM os j::bu os (a++b)=gM os j::(bu os a++bu os b)
  rw[jz os a b]
noncomputable def St.mapO(s:St)(f:ah→ah):St:=@St.rec (λ_=>St) (λc κ t os nx tk=>⟨c,κ,t,f os,nx,tk⟩) s
theorem aw{w:World}{A:Around}{R:Result→Shared→Prop}{d:Drawn}{os:OsState}{hb:Heap}{m0:cM}{g:Array GenState}{fr:ah}{s:St}(keep mv:List Nat)(l new fr':ah)(hfr:(l++fr).Perm (new++fr'))(h:let sS:=(s.mapO λos=>fI os keep++new);Gd (aG w A R d os hb m0 g fr') sS)(hok:cg 0 (keep++mv)=true:=by rfl)(hk:qG (bu s.O keep)=true:=by kernel_rfl)(hm:bu s.O mv=l.map some:=by kernel_rfl):Gd (aG w A R d os hb m0 g fr) s:=by
 refine⟨λhp H=>?_⟩
 obtain⟨c,κ,t,oo,nx,tk⟩:=s
 have hm:bu oo mv=l.map some:=hm
 have hk:qG (bu oo keep)=true:=hk
 have H:aI (bo w) hb m0 hp (oo++fr) nx:=H
 have no:(oo.map (·.1)).Nodup:=by have:=H.nd;rw[FM]at this;exact(List.nodup_append.mp this).1
 have nf:(fr.map (·.1)).Nodup:=by have:=H.nd;rw[FM]at this;exact(List.nodup_append.mp this).2.1
 have dis:∀a∈oo.map (·.1),∀b∈fr.map (·.1),a≠b:=by have:=H.nd;rw[FM]at this;exact(List.nodup_append.mp this).2.2
 have e1:=oL hk
 have e2:bu oo (keep++mv)=(fI oo keep++l).map some:=by rw[jz,e1,hm,FM]
 obtain⟨n1,m1⟩:=hI no hok e2
 have memO:∀p∈fI oo keep++l,p∈oo:=λp hp=>by
  obtain⟨j,_,_,hj⟩:=m1 p hp
  exact List.mem_of_getElem? hj
 have pm:((fI oo keep++l)++fr).Perm ((fI oo keep++new)++fr'):=by
  rw[FV,FV]
  exact List.Perm.append_left _ hfr
 have nd:(((fI oo keep++l)++fr).map (·.1)).Nodup:=by
  rw[FM]
  refine List.nodup_append.mpr ⟨n1,nf,λa ha b hb'=>?_⟩
  obtain⟨p,hp,rfl⟩:=FX.mp ha
  exact dis _ (FP (memO p hp)) b hb'
 refine h.run hp (H.sub (os':=(fI oo keep++new)++fr') (λp hp'=>?_) ((pm.map _).nodup_iff.mp nd))
 have:=pm.mem_iff.mpr hp'
 rcases F0.mp this with q|q
 ·exact FN _ (memO p q)
 ·exact FO _ q
theorem bn{w:World}{A:Around}{R:Result→Shared→Prop}{d:Drawn}{os:OsState}{hb:Heap}{m0:cM}{g:Array GenState}{fr:ah}{s:St}(new fr':ah)(hfr:fr.Perm (new++fr'))
  (h:Gd (aG w A R d os hb m0 g fr') (s.mapO λos=>os++new)):Gd (aG w A R d os hb m0 g fr) s:=by
 refine⟨λhp H=>?_⟩
 obtain⟨c,κ,t,oo,nx,tk⟩:=s
 have H:aI (bo w) hb m0 hp (oo++fr) nx:=H
 refine h.run hp (H.perm ?_)
 show(oo++fr).Perm ((oo++new)++fr')
 rw[FV]
 exact List.Perm.append_left _ hfr
theorem Spec.frame{w:World}{L:Nat}{hd:Option Value}{c:Code}{pre:ah}{X:Type}{C:Nat→X→Prop}{r:X→Result}{post:X→ah}(S:Spec w L hd c pre C r post)(fr:ah):Spec w L hd c (pre++fr) C r λx=>post x++fr:=by
 intro A h g d tk os Z hst hpre hoff nd
 rw[FM]at nd
 obtain⟨n1,n2,n3⟩:=List.nodup_append.mp nd
 refine codeAny_mono (S A h g d tk os Z hst (λp hp=>hpre p (FN _ hp)) (λp hp=>hoff p (FN _ hp)) n1) λr' s' hr=>?_
 obtain⟨x,h',tk',g',rfl,hC,hpost,hnl,hnn,hk⟩:=hr
 have ltf:∀a∈fr.map (·.1),a<h.objs.size:=λa ha=>by
  obtain⟨p,hp,rfl⟩:=FX.mp ha
  exact Heap.lt_size (hpre p (FO _ hp))
 refine⟨x,h',tk',g',rfl,hC,λp hp=>?_,λp hp=>?_,?_,λb o e hb=>hk.1 b o e λhm=>hb (by show b∈List.map _ _;rw[FM];exact FN _ hm),hk.2⟩
 ·rcases F0.mp hp with q|q
  ·exact hpost p q
  ·exact(hk.1 _ _ (hpre p (FO _ q)) λhm=>n3 p.1 hm p.1 (FP q) rfl).1 FU
 ·rcases F0.mp hp with q|q
  ·rcases hnl p q with z|z
   ·exact .inl (by show p.1∈List.map _ _;rw[FM];exact FN _ z)
   ·exact .inr z
  ·exact .inl (by show p.1∈List.map _ _;rw[FM];exact FO _ (FP q))
 ·rw[FM]
  refine List.nodup_append.mpr ⟨hnn,n2,λa ha b hb e=>?_⟩
  obtain⟨p,hp,rfl⟩:=FX.mp ha
  rcases hnl p hp with z|z
  ·exact n3 _ z b hb e
  ·exact absurd (ltf b hb) (Nat.not_lt.mpr (e▸z))
theorem Spec.conv{w:World}{L L':Nat}{hd:Option Value}{c:Code}{pre pre':ah}{X X':Type}{C:Nat→X→Prop}{r:X→Result}{post:X→ah}{C':Nat→X'→Prop}{r':X'→Result}{post':X'→ah}(S:Spec w L hd c pre C r post)(hL:L≤L')(hp:pre'.Perm pre)
  (h:∀n x,C n x→∃x',C' n x'∧r x=r' x'∧(∀p∈post' x',p∈post x)∧(((post x).map (·.1)).Nodup→((post' x').map (·.1)).Nodup)):Spec w L' hd c pre' C' r' post':=by
 intro A hh g d tk os Z hst hpre hoff nd
 refine codeAny_mono (S A hh g d tk os ⟨Z.h,Nat.le_trans Z.d (by unfold DL;omega),Nat.le_trans Z.u (by unfold UL;omega)⟩ hst (λp q=>hpre p (hp.mem_iff.mpr q)) (λp q=>hoff p (hp.mem_iff.mpr q)) ((hp.map _).nodup_iff.mp nd)) λr'' s' hr=>?_
 obtain⟨x,h',tk',g',rfl,hC,hpost,hnl,hnn,hk⟩:=hr
 obtain⟨x',hC',er,hs,hn⟩:=h _ x hC
 refine⟨x',h',tk',g',er,hC',λp q=>hpost p (hs p q),λp q=>?_,hn hnn,λb o e hb=>hk.1 b o e λhm=>hb ((hp.map _).mem_iff.mpr hm),hk.2⟩
 rcases hnl p (hs p q)with z|z
 ·exact .inl ((hp.map _).mem_iff.mpr z)
 ·exact .inr z
theorem Spec.convP{w:World}{L L':Nat}{hd:Option Value}{c:Code}{pre pre':ah}{X X':Type}{C:Nat→X→Prop}{r:X→Result}{post:X→ah}{C':Nat→X'→Prop}{r':X'→Result}{post':X'→ah}(S:Spec w L hd c pre C r post)(hL:L≤L')(hp:pre'.Perm pre)
  (h:∀n x,C n x→∃x',C' n x'∧r x=r' x'∧(post' x').Perm (post x)):Spec w L' hd c pre' C' r' post':=
 S.conv hL hp λn x hC=>by
  obtain⟨x',h1,h2,h3⟩:=h n x hC
  exact⟨x',h1,h2,λp hp=>h3.mem_iff.mp hp,λnd=>((h3.map _).nodup_iff).mpr nd⟩
section
theorem aq{w:World}{L:Nat}{hd:Option Value}{pre:ah}{X:Type}{C:Nat→X→Prop}{r:X→Result}{post:X→ah}{T:String}{name:Str}{id:String}{B:Builtin}{self:Value}{rest:List Value}{S:PySem.Spec}
  (slot:Slot T name id) (entry:entryFor table id=some B) (args:argsOk id ⟨self::rest,[]⟩) (g:MeetsIn pw w (B ⟨self::rest,[]⟩) S)
  (h:∀(A:Around)(hp:Heap)(g:GB)(d:Drawn)(tk:Nat)(os:OsState),A.handled=hd→cb w hp→k8 hp pre→(pre.map (·.1)).Nodup→Shared.TypeIs ⟨hp,g,d,tk,os⟩ self T∧S A (bj d os hp hp.objs.size (md (pre.map (·.1))) C r post) ⟨hp,g,d,tk,os⟩):
  Spec w L hd (.call (.builtin id) ⟨self::rest,[]⟩) pre C r post:=λA hp g' d tk os Z hst hpre hoff nd=>by
 obtain⟨hT,hS⟩:=h A hp g' d tk os Z.h hst hpre nd
 exact codeAny_call_builtin slot.plain entry (slot.check _ _ _ _ _ _ _ _ hT args (g A _ _ hS))
noncomputable def KV{w:World}{K:Type}[DecidableEq K](knd:KeyKind pw w K)(es:List DictEntry)(aH:List (K×Value)):Prop:=KeysOf knd ⟨es⟩∧Pairs knd es aH∧(aH.map (·.1)).Nodup
theorem py(es:List DictEntry)(ep:Nat):(ae es ep).ExactDict:=⟨by kernel_rfl,rfl,rfl⟩
section
variable{w:World}{K:Type}[DecidableEq K]{knd:KeyKind pw w K}{es:List DictEntry}{aH:List (K×Value)}{L:Nat}{hd:Option Value}{x ep:Nat}{k:K}{key:Value}
theorem KV.dictOf(h:KV knd es aH){hp:Heap}(hh:k8 hp [(x+937,ae es ep)]):hp.DictOf knd (x+937) aH:=
 ⟨_,⟨es⟩,ep,hh _ (.head _),py es ep,rfl,h.1,h.2.1,h.2.2⟩
theorem cz{X:Type}{g:GB}{d:Drawn}{os:OsState}{hp:Heap}{pre:ah}{C:Nat→X→Prop}{r:X→Result}{post:X→ah}{tk:Nat}{v:Result}(x:X)(hv:v=r x)(hC:C hp.objs.size x)(he:post x=pre)(hh:k8 hp pre)(nd:(pre.map (·.1)).Nodup):
  bj d os hp hp.objs.size (md (pre.map (·.1))) C r post v ⟨hp,g,d,tk,os⟩:=
 ⟨x,hp,tk,g,hv,hC,he▸hh,he▸λp h=>.inl (FP h),he▸nd,λb o e _=>a6 e,Nat.le_refl _⟩
theorem nh(x:Nat):((x+937:Addr)==sysModules)=false:=by
 refine beq_eq_false_iff_ne.mpr λe=>?_
 have:x+937=sysModules:=e
 unfold sysModules at this
 lia
theorem il(h:KV knd es aH)(hk:knd.is k key=true):Spec w L hd (.call (.builtin "dict.get") ⟨[.ref (x+937),key],[]⟩) [(x+937,ae es ep)] (X:=Unit) (λ_ _=>True) (λ_=>.ok (.ret ((valueAt aH k).getD .none))) (λ_=>[(x+937,ae es ep)]):=
 aq F.slot_dict_get F.entry_dict_get (F.args_dict_get_2 _ _) (meets_dict_get knd (x+937) hk (nh x)) λA hp g d tk os hA hst hpre nd=>
  have hd:=h.dictOf (ep:=ep) hpre
  ⟨hd.mapOf.typeIs,_,hd.mapOf,cz () rfl trivial rfl hpre nd⟩
theorem bl{v:Value}(h:KV knd es aH)(hk:knd.is k key=true)(hv:valueAt aH k=some v):Spec w L hd (.call (.builtin "dict.__getitem__") ⟨[.ref (x+937),key],[]⟩) [(x+937,ae es ep)] (X:=Unit) (λ_ _=>True) (λ_=>.ok (.ret v)) (λ_=>[(x+937,ae es ep)]):=
 aq F.slot_dict_getitem F.entry_dict_getitem (F.args_dict_getitem_2 _ _) (meets_dict_getitem knd (x+937) hk) λA hp g d tk os hA hst hpre nd=>
  have hd:=h.dictOf (ep:=ep) hpre
  ⟨hd.mapOf.typeIs,_,v,hd.mapOf,hv,cz () rfl trivial rfl hpre nd⟩
theorem lf(h:KV knd es aH)(hk:knd.is k key=true):Spec w L hd (.call (.builtin "dict.__contains__") ⟨[.ref (x+937),key],[]⟩) [(x+937,ae es ep)] (X:=Unit) (λ_ _=>True) (λ_=>.ok (.ret (.bool (valueAt aH k).isSome))) (λ_=>[(x+937,ae es ep)]):=
 aq F.slot_dict_contains F.entry_dict_contains (F.args_dict_contains_2 _ _) (meets_dict_contains knd (x+937) hk (nh x)) λA hp g d tk os hA hst hpre nd=>
  have hd:=h.dictOf (ep:=ep) hpre
  ⟨hd.mapOf.typeIs,_,hd.mapOf,cz () rfl trivial rfl hpre nd⟩
theorem dx{v:Value}(h:KV knd es aH)(hk:knd.is k key=true)(hl:aH.length≤sizeLine):Spec w L hd (.call (.builtin "dict.__setitem__") ⟨[.ref (x+937),key,v],[]⟩) [(x+937,ae es ep)] (X:=List DictEntry×Nat) (λ_ y=>KV knd y.1 (stored aH k v)) (λ_=>.ok (.ret .none)) (λy=>[(x+937,ae y.1 y.2)]):=
 aq F.slot_dict_setitem F.entry_dict_setitem (F.args_dict_setitem_3 _ _ _) (meets_dict_setitem_pairs knd (x+937) hk v) λA hp g d tk os hA hst hpre nd=>
  have hd:=h.dictOf (ep:=ep) hpre
  ⟨hd.mapOf.typeIs,aH,hd,hl,λh' hd' hs=>by
   obtain⟨o,es',ep',ho,hx,hda,hk',hp',hn'⟩:=hd'
   obtain⟨es'⟩:=es'
   have ho':o=ae es' ep':=by
    obtain⟨c,di,dt,sl⟩:=o
    obtain⟨h1,h2,h3⟩:=hx
    cases h1;cases h2;cases h3;cases hda
    have:(ae es' ep').cls=.type "dict":=by kernel_rfl
    show _=(⟨(ae es' ep').cls,none,.dict ⟨es'⟩ ep',#[]⟩:Obj)
    rw[this]
   subst ho'
   refine⟨(es',ep'),h',tk+1,g,rfl,⟨hk',hp',hn'⟩,?_,λp h=>.inl (by simpa using FP (f:=(·.1)) h),by simp,?_,?_⟩
   ·intro p hp
    cases FW.mp hp
    exact ho
   ·intro b o e hb
    simp only[FR,List.map_nil,FW]at hb
    exact a6 ((hs.2 b hb).trans e)
   ·exact Nat.le_of_eq hs.1.symm⟩
end
theorem bw{w:World}(S:Str)(t:Tok):(strKind pw w).is S (.str S t)=true:=by
 show(S==S)=true
 simp
noncomputable abbrev SK(w:World):=strKind pw w
noncomputable def kP(os:ah)(j i:Nat):Value:=match gM os j with
 |some p=>(p.2.slots.toList.getD i none).getD .none
 |none=>.none
end
theorem be(vs:List Value)(ep:Nat):aa vs ep={cls:=.type "list",dict:=none,data:=.seq ⟨vs⟩ ep,slots:=#[]}:=by
 have:(aa vs ep).cls=.type "list":=by kernel_rfl
 show(⟨(aa vs ep).cls,none,.seq ⟨vs⟩ ep,#[]⟩:Obj)=_
 rw[this]
theorem jm{X:Type}{g:GB}{d:Drawn}{os:OsState}{hp:Heap}{a:Addr}{o:Obj}{f:Obj→Obj}{C:Nat→X→Prop}{r:X→Result}{post:X→ah}{tk:Nat}{v:Result}(x:X)(hv:v=r x)(hC:C hp.objs.size x)(ho:hp.get? a=some o)(hf:(f o).isFreed=false)(he:post x=[(a,f o)]):
  bj d os hp hp.objs.size (md [a]) C r post v ⟨hp.update a f,g,d,tk,os⟩:=by
 have hs:Heap.SameBut a hp (hp.update a f):=Heap.SameBut.update ..
 refine⟨x,_,tk,g,hv,hC,?_,?_,?_,?_,?_⟩
 ·rw[he]
  intro p hp'
  cases FW.mp hp'
  exact Heap.get?_update_self f ho hf
 ·rw[he]
  intro p hp'
  cases FW.mp hp'
  exact .inl (.head _)
 ·rw[he];simp
 ·intro b o' e hb
  exact a6 ((hs.2 b (by simpa using hb)).trans e)
 ·exact Nat.le_of_eq hs.1.symm
theorem af{w:World}{L:Nat}{hd:Option Value}{x ep:Nat}{vs:List Value}{v:Value}(hl:vs.length≤sizeLine):Spec w L hd (.call (.builtin "list.append") ⟨[.ref (x+937),v],[]⟩) [(x+937,aa vs ep)] (X:=Unit) (λ_ _=>True) (λ_=>.ok (.ret .none)) (λ_=>[(x+937,aa (vs++[v]) (ep+1))]):=
 aq slot_list_append entry_list_append (args_list_append _ _) ((AutoListH.list_append_list_val_0 (x+937) ⟨vs⟩ ep v (by simpa using hl)).inModel pw w) λA hp g d tk os hA hst hpre nd=>by
  have h:=hpre _ (.head _)
  have h':=h
  rw[be]at h'
  refine⟨⟨_,h',rfl⟩,h',jm (f:=Obj.mapSeq λa=>a.push v) () rfl trivial h rfl ?_⟩
  show[(x+937,aa (vs++[v]) (ep+1))]=[(x+937,aa (List.concat vs v) (if(((⟨vs⟩:Array Value).push v).size==(⟨vs⟩:Array Value).size)=true then ep else ep+1))]
  rw[List.concat_eq_append,if_neg (by simp)]
noncomputable abbrev ai(l:Addr)(i:Nat):Obj:=⟨.type SL.s3492446563574874994x13,none,.fields ⟨[.ref l,.int i 0]⟩,⟨[]⟩⟩
theorem jd(l:Addr)(i:Nat):(ai l i).cls=.type "list_iterator":=by kernel_rfl
theorem dp(w:World)(it l:Addr)(i ep:Nat)(vs:List Value)(x:Value)(hx:vs[i]?=some x):
  MeetsIn pw w (Builtin.«list_iterator.__next__» ⟨[.ref it],[]⟩) (λ_ R s=>s.heap.get? it=some (ai l i)∧s.heap.get? l=some (aa vs ep)∧R (.ok (.ret x)) {s with heap:=s.heap.update it (Obj.mapFields λf=>f.setIfInBounds 1 (rawInt (i+1)))}):=
 .of_wp λA R s⟨ho,hol,h⟩=>by
  have hx':(⟨vs⟩:Array Value)[i]?=some x:=by simpa using hx
  show wpAny _ _ (field (.ref it) 0>>=_) _ _ s
  refine wpAny_bind (wpAny_field ho rfl (x:=.ref l) rfl ?_)
  show wpAny _ _ (if(Value.ref l==Value.none)=true then _ else _) _ _ s
  rw[if_neg (show¬((Value.ref l==Value.none)=true)from Bool.false_ne_true)]
  show wpAny _ _ (field (.ref it) 1>>=_) _ _ s
  refine wpAny_bind (wpAny_field ho rfl (x:=.int i 0) rfl ?_)
  show wpAny _ _ (seqItems? (.ref l)>>=_) _ _ s
  refine wpAny_bind (wpAny_seqItems hol rfl ?_)
  simp only[Int.toNat_natCast,hx']
  exact wpAny_bind (wpAny_setField ho rfl (by simp) (wpAny_pure ⟨x,rfl,h⟩))
theorem am{w:World}{L:Nat}{hd:Option Value}{y x i ep:Nat}{vs:List Value}{v:Value}(hx:vs[i]?=some v):Spec w L hd (.call (.builtin "list_iterator.__next__") ⟨[.ref (y+937)],[]⟩) [(y+937,ai (x+937) i),(x+937,aa vs ep)] (X:=Unit) (λ_ _=>True) (λ_=>.ok (.ret v)) (λ_=>[(y+937,ai (x+937) (i+1)),(x+937,aa vs ep)]):=
 aq slot_listiter_next entry_listiter_next (args_listiter_next _) (dp w (y+937) (x+937) i ep vs v hx) λA hp g d tk os hA hst hpre nd=>by
  have h:=hpre _ (.head _)
  have h2:=hpre _ (.tail _ (.head _))
  have hne:(x+937:Addr)≠y+937:=by
   intro e
   simp[e]at nd
  have hs:Heap.SameBut (y+937) hp (hp.update (y+937) (Obj.mapFields λf=>f.setIfInBounds 1 (rawInt (i+1)))):=Heap.SameBut.update ..
  refine⟨⟨_,h,jd _ _⟩,h,h2,(),_,tk,g,rfl,trivial,?_,?_,nd,?_,?_⟩
  ·intro p hp'
   rcases FY.mp hp' with rfl|hp'
   ·exact Heap.get?_update_self _ h rfl
   ·cases FW.mp hp'
    exact(hs.2 _ hne).trans h2
  ·exactλp hp'=>.inl (FP (f:=(·.1)) hp':p.1∈[(y+937,ai (x+937) (i+1)),(x+937,aa vs ep)].map (·.1))
  ·intro b o e hb
   simp only[FR,List.map_nil,FY,not_or]at hb
   exact a6 ((hs.2 b hb.1).trans e)
  ·exact Nat.le_of_eq hs.1.symm
noncomputable abbrev av(i:Nat):Obj:=⟨.type SL.s3492446563574874994x13,none,.fields ⟨[.none,.int i 0]⟩,⟨[]⟩⟩
noncomputable abbrev b8(t:Addr):Obj:=⟨.type SL.s5991306692159431302x13,none,.fields ⟨[.ref t,.none,.none,.none,.bool false,.none]⟩,⟨[]⟩⟩
theorem dU(w:World)(it l:Addr)(i ep:Nat)(vs:List Value)(hx:vs[i]?=none):
  MeetsIn pw w (Builtin.«list_iterator.__next__» ⟨[.ref it],[]⟩) (λA R s=>A.handled=none∧s.heap.get? it=some (ai l i)∧s.heap.get? l=some (aa vs ep)∧
   R (.error (.ref (s.heap.objs.size+1))) {s with heap:=((s.heap.update it (Obj.mapFields λf=>f.setIfInBounds 0 .none)).push {cls:=.type "tuple",data:=.seq #[]}).push {cls:=.type "StopIteration",data:=.fields #[.ref s.heap.objs.size,.none,.none,.none,.bool false,.none]}}):=
 .of_wp λA R s⟨hh,ho,hol,h⟩=>by
  have hx':(⟨vs⟩:Array Value)[i]?=none:=by simpa using hx
  show wpAny _ _ (field (.ref it) 0>>=_) _ _ s
  refine wpAny_bind (wpAny_field ho rfl (x:=.ref l) rfl ?_)
  show wpAny _ _ (if(Value.ref l==Value.none)=true then _ else _) _ _ s
  rw[if_neg (show¬((Value.ref l==Value.none)=true)from Bool.false_ne_true)]
  show wpAny _ _ (field (.ref it) 1>>=_) _ _ s
  refine wpAny_bind (wpAny_field ho rfl (x:=.int i 0) rfl ?_)
  show wpAny _ _ (seqItems? (.ref l)>>=_) _ _ s
  refine wpAny_bind (wpAny_seqItems hol rfl ?_)
  simp only[Int.toNat_natCast,hx']
  refine wpAny_bind (wpAny_rule (wpAny_bind (wpAny_setField ho rfl (by simp) ?_)))
  show wpAny _ _ (newExc (.type "StopIteration") []>>=_) _ _ _
  refine wpAny_bind ?_
  delta newExc newTuple
  refine wpAny_bind (wpAny_newObj_type ?_ (by size_fits))
  refine wpAny_bind (m:=firstArgMember _ _) (wpAny_of_eq (a:=Value.none) (by first|rfl|(simp only[firstArgMember];rfl)) ?_)
  refine wpAny_newObj_type ?_ (by size_fits)
  delta raiseNew
  refine wpAny_bind (wpAny_handled ?_)
  rw[show A.in1.handled=none from hh]
  refine wpAny_bind (wpAny_pure (wpAny_throw ?_))
  have e1:(s.heap.update it (Obj.mapFields λf=>f.setIfInBounds 0 .none)).objs.size=s.heap.objs.size:=(Heap.SameBut.update ..).1
  simp only[Heap.size_push,e1]
  exact h
theorem iQ:(aW []:Obj)={cls:=.type "tuple",data:=.seq #[]}:=by
 have:(aW []:Obj).cls=.type "tuple":=by kernel_rfl
 show(⟨(aW []:Obj).cls,none,.seq ⟨[]⟩ 0,#[]⟩:Obj)=_
 rw[this]
theorem iK(t:Addr):b8 t={cls:=.type "StopIteration",data:=.fields #[.ref t,.none,.none,.none,.bool false,.none]}:=by
 have:(b8 t).cls=.type "StopIteration":=by kernel_rfl
 show(⟨(b8 t).cls,none,.fields ⟨_⟩,#[]⟩:Obj)=_
 rw[this]
theorem a7{w:World}{L:Nat}{y x i ep:Nat}{vs:List Value}(hx:vs[i]?=none):Spec w L none (.call (.builtin "list_iterator.__next__") ⟨[.ref (y+937)],[]⟩) [(y+937,ai (x+937) i),(x+937,aa vs ep)] (X:=Nat) (λ_ _=>True) (λn=>.error (.ref (n+938))) (λn=>[(y+937,av i),(x+937,aa vs ep)]++[(n+937,aW []),(n+938,b8 (n+937))]):=
 aq slot_listiter_next entry_listiter_next (args_listiter_next _) (dU w (y+937) (x+937) i ep vs hx) λA hp g d tk os hA hst hpre nd=>by
  have h:=hpre _ (.head _)
  have h2:=hpre _ (.tail _ (.head _))
  obtain⟨n,hn⟩:∃n,hp.objs.size=n+937:=⟨hp.objs.size-937,by have:=aV w hp hst;lia⟩
  have hne:(x+937:Addr)≠y+937:=by
   intro e
   simp[e]at nd
  have hs:Heap.SameBut (y+937) hp (hp.update (y+937) (Obj.mapFields λf=>f.setIfInBounds 0 .none)):=Heap.SameBut.update ..
  have l1:y+937<n+937:=hn▸Heap.lt_size h
  have l2:x+937<n+937:=hn▸Heap.lt_size h2
  rw[hn]
  refine⟨⟨_,h,jd _ _⟩,hA,h,h2,n,_,tk,g,rfl,trivial,?_,?_,?_,?_,?_⟩
  ·intro p hp'
   simp only[List.cons_append,List.nil_append,FY,FU,or_false]at hp'
   rcases hp' with rfl|rfl|rfl|rfl
   ·exact Heap.get?_push_of_some _ (Heap.get?_push_of_some _ (Heap.get?_update_self _ h rfl))
   ·exact Heap.get?_push_of_some _ (Heap.get?_push_of_some _ ((hs.2 _ hne).trans h2))
   ·refine Heap.get?_push_of_some _ ?_
    rw[iQ,←hn,←hs.1]
    exact Heap.get?_push_size _ rfl
   ·rw[iK]
    have:n+938=((hp.update (y+937) (Obj.mapFields λf=>f.setIfInBounds 0 .none)).push {cls:=.type "tuple",data:=.seq #[]}).objs.size:=by rw[Heap.size_push,hs.1,hn]
    rw[this]
    exact Heap.get?_push_size _ rfl
  ·intro p hp'
   simp only[List.cons_append,List.nil_append,FY,FU,or_false]at hp'
   rcases hp' with rfl|rfl|rfl|rfl
   ·exact .inl (.head _)
   ·exact .inl (.tail _ (.head _))
   ·exact .inr (Nat.le_refl _)
   ·exact .inr (Nat.le_succ _)
  ·simp only[List.cons_append,List.nil_append,FR,List.map_nil,List.nodup_cons,FY,FU,or_false,not_or,not_false_eq_true,List.nodup_nil,and_true]
   exact⟨⟨hne.symm,Nat.ne_of_lt l1,Nat.ne_of_lt (Nat.lt_succ_of_lt l1)⟩,⟨Nat.ne_of_lt l2,Nat.ne_of_lt (Nat.lt_succ_of_lt l2)⟩,Nat.ne_of_lt (Nat.lt_succ_self _)⟩
  ·intro b o e hb
   simp only[FR,List.map_nil,FY,not_or]at hb
   exact a6 (Heap.get?_push_of_some _ (Heap.get?_push_of_some _ ((hs.2 b hb.1).trans e)))
  ·rw[Heap.size_push,Heap.size_push,hs.1,hn]
   lia
section
section
variable{w:World}{L:Nat}{hd:Option Value}{pre:ah}{X:Type}{C:Nat→X→Prop}{r:X→Result}{post:X→ah}{id:String}{B:Builtin}{args:Args}
noncomputable abbrev wr(w:World)(A:Around)(R:Result→Shared→Prop):Fin→Shared→Prop:=λfin s'=>match fin with|.done f=>R (.ok f) s'|.again c'=>c'.quiet=true∧codeAny (model pw w) A c' R s'
theorem gB(plain:plainId id=true)(entry:entryFor table id=some B)
  (h:∀(A:Around)(hp:Heap)(g:GB)(d:Drawn)(tk:Nat)(os:OsState),Rm A L hd→cb w hp→k8 hp pre→(pre.map (·.1)).Nodup→
   wpAny (model pw w) A.in1 (B args) (wr w A (bj d os hp hp.objs.size (md (pre.map (·.1))) C r post)) (λe s'=>bj d os hp hp.objs.size (md (pre.map (·.1))) C r post (.error e) s') ⟨hp,g,d,tk,os⟩):
  Spec w L hd (.builtin id args) pre C r post:=λA hp g' d tk os Z hst hpre hoff nd=>by
 refine codeAny_builtin entry ?_
 rw[Around.under_plainId plain]
 exact h A hp g' d tk os Z hst hpre nd
theorem kQ(hk:builtinKind id=none)(plain:plainId id=true)(entry:entryFor table id=some B)(ha:argsOk id args)
  (h:∀(A:Around)(hp:Heap)(g:GB)(d:Drawn)(tk:Nat)(os:OsState),Rm A L hd→cb w hp→k8 hp pre→(pre.map (·.1)).Nodup→
   wpAny (model pw w) A.in1 (B args) (wr w A (bj d os hp hp.objs.size (md (pre.map (·.1))) C r post)) (λe s'=>bj d os hp hp.objs.size (md (pre.map (·.1))) C r post (.error e) s') ⟨hp,g,d,tk,os⟩):
  Spec w L hd (.call (.builtin id) args) pre C r post:=λA hp g' d tk os Z hst hpre hoff nd=>by
 refine codeAny_call_builtin plain entry ?_
 have z:=h A hp g' d tk os Z hst hpre nd
 simp only[checkBuiltinCall,hk]
 cases hsig:Manifest.signature? id with
 |none=>exact wpAny_pure z
 |some sig =>
  simp only[argsOk,hsig]at ha
  show wpAny _ _ (Bind.checkArgs id sig args) _ _ _
  rw[ha]
  exact wpAny_pure z
theorem fq{A:Around}{R:Result→Shared→Prop}{t:Sem Fin}{s:Shared}(h:wpAny (model pw w) A.in1 t (λfin s'=>∃v,fin=.done (.ret v)∧R (.ok (.ret v)) s') (λe s'=>R (.error e) s') s):
  wpAny (model pw w) A.in1 t (wr w A R) (λe s'=>R (.error e) s') s:=
 wpAny_mono h (λfin s' h'=>by obtain⟨v,rfl,hv⟩:=h';exact hv) λ_ _ e=>e
theorem dT{hp:Heap}{a:Addr}{vs:List Value}{ep:Nat}(h:hp.get? a=some (aa vs ep)):hp.IsList a ⟨vs⟩:=by
 rw[be]at h
 exact⟨_,h,rfl,ep,rfl⟩
theorem ot{x ep:Nat}{vs:List Value}(hl:vs.length≤sizeLine):Spec w L hd (.builtin "len" ⟨[.ref (x+937)],[]⟩) [(x+937,aa vs ep)] (X:=Tok) (λ_ _=>True) (λt=>.ok (.ret (.int vs.length t))) (λ_=>[(x+937,aa vs ep)]):=
 gB plain_len entry_len λA hp g d tk os Z hst hpre nd=>fq (wpAny_len_body_list (dT (hpre _ (.head _))) (by have:=hl;rw[sizeLine_eq]at this;show((vs.length:Nat):Int)<_;lia)
  ⟨_,hp,_,g,rfl,trivial,hpre,λp h=>.inl (FP h),nd,λb o e _=>a6 e,Nat.le_refl _⟩)
theorem uf{x ep:Nat}{vs:List Value}(hl:vs.length≤sizeLine):Spec w L hd (.call (.builtin "len") ⟨[.ref (x+937)],[]⟩) [(x+937,aa vs ep)] (X:=Tok) (λ_ _=>True) (λt=>.ok (.ret (.int vs.length t))) (λ_=>[(x+937,aa vs ep)]):=
 kQ (by kernel_rfl) plain_len entry_len (args_len1 _) λA hp g d tk os Z hst hpre nd=>fq (wpAny_len_body_list (dT (hpre _ (.head _))) (by have:=hl;rw[sizeLine_eq]at this;show((vs.length:Nat):Int)<_;lia)
  ⟨_,hp,_,g,rfl,trivial,hpre,λp h=>.inl (FP h),nd,λb o e _=>a6 e,Nat.le_refl _⟩)
end
theorem gU{w:World}{L:Nat}{hd:Option Value}{x ep n:Nat}{vs:List Value}(hl:vs.length≤sizeLine)(hn:vs.length=n):Spec w L hd (.builtin "len" ⟨[.ref (x+937)],[]⟩) [(x+937,aa vs ep)] (X:=Tok) (λ_ _=>True) (λt=>.ok (.ret (.int (n:Nat) t))) (λ_=>[(x+937,aa vs ep)]):=hn▸ot hl
end
noncomputable abbrev e7(es:List DictEntry)(ep:Nat):Obj:=⟨.type SL.s658472552662922059x5,none,.dict ⟨es⟩ ep,⟨[]⟩⟩
noncomputable def bH(f:Nat)(o:Obj)(loc:Nat):Env:=match o.data with
 |.func fd=>⟨fd.scope,loc+937,fd.globals,fd.closure,⟨fd.qualname.cps++(u [46,60,108,111,99,97,108,115,62,46]).cps⟩,some f,fd.code,some (loc+937),fd.builtins⟩
 |_=>default
noncomputable def cF(st:Stmt)(it:Value)(env:Env):Code:=match st with
 |.For t _ b o _=>.forLoop t it b o env
 |_=>.block [] env
noncomputable def ir:Stmt→List Stmt
 |.For _ _ b _ _=>b
 |_=>[]
noncomputable def b6(st:Stmt)(env:Env):Code:=match st with
 |.While t b o _=>.whileLoop t b o env
 |_=>.block [] env
noncomputable def bN:Stmt→List Stmt
 |.While _ b _ _=>b
 |_=>[]
noncomputable def tT:Stmt→List Stmt
 |.If _ b _ _=>b
 |_=>[]
noncomputable def tU:Stmt→List Stmt
 |.If _ _ b _=>b
 |_=>[]
noncomputable abbrev bQ(l:Addr)(i:Nat):Obj:=⟨.type SL.s4096838299382398694x14,none,.fields ⟨[.ref l,.int i 0]⟩,⟨[]⟩⟩
theorem ov{w:World}{L:Nat}{y x i ep:Nat}{vs:List Value}(hx:vs[i]?=none):Spec w L none (.call (.builtin "list_iterator.__next__") ⟨[.ref (y+937)],[]⟩) ([(y+937,ai (x+937) i)]++[(x+937,aa vs ep)]) (X:=Nat) (λ_ _=>True) (λn=>.error (.ref (n+938))) (λn=>[(y+937,av i)]++[(n+937,aW []),(n+938,b8 (n+937))]++[(x+937,aa vs ep)]):=
 (a7 (L:=L) (y:=y) (x:=x) (i:=i) (ep:=ep) hx).conv (Nat.le_refl _) (FL _) λ_ n _=>⟨n,trivial,rfl,λp hp=>by
  simp only[List.cons_append,List.nil_append,FY,FU,or_false]at hp⊢
  rcases hp with h|h|h|h
  ·exact .inl h
  ·exact .inr (.inr (.inl h))
  ·exact .inr (.inr (.inr h))
  ·exact .inr (.inl h),λnd=>by
  simp only[List.cons_append,List.nil_append,FR,List.map_nil,List.nodup_cons,FY,FU,or_false,not_or,not_false_eq_true,List.nodup_nil,and_true]at nd⊢
  obtain⟨⟨h1,h2,h3⟩,⟨h4,h5⟩,h6⟩:=nd
  exact⟨⟨h2,h3,h1⟩,⟨h6,λe=>h4 e.symm⟩,λe=>h5 e.symm⟩⟩
noncomputable def eJ:Stmt→Expr
 |.Assign _ v _=>v
 |_=>.Name ⟨#[]⟩ default
noncomputable def nt:Stmt→Expr
 |.Return (some v) _=>v
 |_=>.Name ⟨#[]⟩ default
noncomputable def bZ:Expr→Scope
 |.ListComp _ _ s _=>s
 |.GeneratorExp _ _ s _=>s
 |_=>default
noncomputable def fL(e:Expr)(E:Env)(loc:Nat):Env:={E with scope:=bZ e,locals:=loc+937,func:=none}
noncomputable abbrev df(es:List DictEntry)(ep:Nat)(sl:Array (Option Value)):Obj:=⟨.type SL.s658472552662922059x5,none,.dict ⟨es⟩ ep,sl⟩
noncomputable def cT:Stmt→Expr
 |.While t _ _ _=>t
 |_=>.Name ⟨#[]⟩ default
noncomputable def gD:Stmt→List Stmt
 |.Try b _ _ _ _=>b
 |_=>[]
noncomputable def eG:Stmt→List ExceptHandler
 |.Try _ h _ _ _=>h
 |_=>[]
noncomputable def lL:List ExceptHandler→List ExceptHandler
 |.ExceptHandler t n _ p::_=>[.ExceptHandler t none [] p]
 |[]=>[]
noncomputable def jb:List ExceptHandler→List ExceptHandler
 |.ExceptHandler _ n b p::_=>[.ExceptHandler none n b p]
 |[]=>[]
section
open AutoSeq1 (wpAny_loadPart')
noncomputable def jj(b:Bool)(vs:List Value)(ep:Nat):Obj:=@Bool.rec (λ_=>Obj) (aW vs) (aa vs ep) b
theorem iP(vs:List Value):aW vs={cls:=.type "tuple",dict:=none,data:=.seq ⟨vs⟩ 0,slots:=#[]}:=by
 have:(aW vs).cls=.type "tuple":=by kernel_rfl
 show(⟨(aW vs).cls,none,.seq ⟨vs⟩ 0,#[]⟩:Obj)=_
 rw[this]
theorem o9(b:Bool)(vs:List Value)(ep:Nat):∃T,(T="list"∨T="tuple")∧(jj b vs ep).cls=.type T:=by
 cases b with
 |true=>exact⟨"list",.inl rfl,by show(aa vs ep).cls=_;rw[be]⟩
 |false=>exact⟨"tuple",.inr rfl,by show(aW vs).cls=_;rw[iP]⟩
theorem l9(b:Bool)(vs:List Value)(ep:Nat):∃n,(jj b vs ep).data=.seq ⟨vs⟩ n:=by
 cases b with
 |true=>exact⟨ep,rfl⟩
 |false=>exact⟨0,rfl⟩
section
variable{A:Around}{s:Shared}{R:Result→Shared→Prop}{w:World}
theorem j9(S it:Addr)(res:Value)(c₀:Nat){T:String}{o:Obj}{xs items:Array Value}{n:Nat}(hT:T="list"∨T="tuple")
  (hS:s.heap.get? S=some {cls:=.type "list",data:=.seq xs c₀}) (ho:s.heap.get? it=some o) (hc:o.cls=.type T) (hd:o.data=.seq items n) (hz:xs.size+items.size≤sizeLine)
  (hR:R (.ok (.ret res)) {s with heap:=s.heap.update S (Obj.mapSeq (·++items))}):
  wpAny (model pw w) A.in1 (Builtin.List.listExtendWith (.ref S) (.ref it) res) (wr w A R) (λe s'=>R (.error e) s') s:=by
 unfold Builtin.List.listExtendWith
 refine wpAny_bind (wpAny_typeOf ⟨o,ho,hc⟩ ?_)
 have h1:(Builtin.List.listSameRef (.ref S) (.ref it)||Value.type T==Value.type "list"||Value.type T==Value.type "tuple")=true:=by
  rcases hT with rfl|rfl<;>simp
 simp only[h1,if_true]
 refine wpAny_bind ?_
 unfold Builtin.List.listItems
 refine wpAny_bind (wpAny_seqItems ho hd (wpAny_pure ?_))
 refine wpAny_bind ?_
 refine wpAny_bind (wpAny_seqItems hS rfl (wpAny_pure ?_))
 have h2:(!xs.isEmpty&&Builtin.List.listTooLong (xs.size+items.size))=false:=by
  have:Builtin.List.listTooLong (xs.size+items.size)=false:=decide_eq_false (by lia)
  rw[this,Bool.and_false]
 rw[h2]
 show wpAny _ A.in1 (updateSeq S (·++items)>>=λ_=>ret res) _ _ s
 refine wpAny_bind (wpAny_updateSeq hS rfl ?_ (by lia) (by rw[Array.size_append];lia))
 exact wpAny_pure hR
end
section
variable{w:World}{L:Nat}{hd:Option Value}{x y e ep:Nat}{xs vs:List Value}{b:Bool}
theorem qx(xs vs:List Value)(e:Nat):∃e',Obj.mapSeq (·++(⟨vs⟩:Array Value)) (aa xs e)=aa (xs++vs) e':=by
 refine⟨if(((⟨xs⟩:Array Value)++(⟨vs⟩:Array Value)).size==(⟨xs⟩:Array Value).size)=true then e else e+1,?_⟩
 show(⟨_,none,.seq ((⟨xs⟩:Array Value)++⟨vs⟩) _,_⟩:Obj)=_
 have:(⟨xs⟩:Array Value)++(⟨vs⟩:Array Value)=⟨xs++vs⟩:=by simp
 rw[this]
 simp only[this]
theorem jt(hz:xs.length+vs.length≤sizeLine):Spec w L hd (.call (.builtin "list.extend") ⟨[.ref (x+937),.ref (y+937)],[]⟩) [(x+937,aa xs e),(y+937,jj b vs ep)] (X:=Nat) (λ_ _=>True) (λ_=>.ok (.ret .none)) (λe'=>[(x+937,aa (xs++vs) e'),(y+937,jj b vs ep)]):=λA hp g d tk os Z hst hpre hoff nd=>by
 have h1:=hpre _ (.head _)
 have h2:=hpre _ (.tail _ (.head _))
 have h1':=h1
 rw[be]at h1'
 obtain⟨T,hT,hc⟩:=o9 b vs ep
 obtain⟨n,hdd⟩:=l9 b vs ep
 obtain⟨e',he'⟩:=qx xs vs e
 have hne:(y+937:Addr)≠x+937:=by
  intro q
  simp[q]at nd
 have hs:Heap.SameBut (x+937) hp (hp.update (x+937) (Obj.mapSeq (·++(⟨vs⟩:Array Value)))):=Heap.SameBut.update ..
 refine codeAny_call_builtin F.slot_list_extend.plain F.entry_list_extend (F.slot_list_extend.check _ _ _ _ _ _ _ _ ⟨_,h1',rfl⟩ (F.args_list_extend_2 _ _) ?_)
 show wpAny _ _ (Builtin.List.listExtendWith (.ref (x+937)) (.ref (y+937)) .none) _ _ _
 refine j9 (A:=A) (R:=bj d os hp hp.objs.size _ _ _ _) _ _ _ _ hT h1' h2 hc hdd (by simpa using hz) ?_
 refine⟨e',_,tk,g,rfl,trivial,?_,?_,by simpa using nd,?_,Nat.le_of_eq hs.1.symm⟩
 ·intro p hp'
  rcases FY.mp hp' with rfl|hp'
  ·have:=Heap.get?_update_self (h:=hp) (Obj.mapSeq (·++(⟨vs⟩:Array Value))) h1 (by rw[he'];rfl)
   rw[he']at this
   exact this
  ·cases FW.mp hp'
   exact(hs.2 _ hne).trans h2
 ·exactλp hp'=>.inl (FP (f:=(·.1)) hp':p.1∈[(x+937,aa (xs++vs) e'),(y+937,jj b vs ep)].map (·.1))
 ·intro b' o hb' hm
  simp only[FR,List.map_nil,FY,not_or]at hm
  exact a6 ((hs.2 b' hm.1).trans hb')
theorem ik(hz:vs.length≤sizeLine)(A:Around)(hp:Heap)(g:GB)(d:Drawn)(tk:Nat)(os:OsState)(hst:cb w hp)(hpre:k8 hp [(y+937,jj b vs ep)]):
  codeAny (model pw w) A (.builtin "proto.collect" ⟨[.ref (y+937)],[]⟩) (bj d os hp hp.objs.size (md ([(y+937,jj b vs ep)].map (·.1))) (X:=Nat×Nat) (λ_ _=>True) (λn=>.ok (.ret (.ref (n.1+937)))) (λn=>[(y+937,jj b vs ep)]++[(n.1+937,aa vs n.2)])) ⟨hp,g,d,tk,os⟩:=by
 have h2:=hpre _ (.head _)
 obtain⟨T,hT,hc⟩:=o9 b vs ep
 obtain⟨n,hdd⟩:=l9 b vs ep
 obtain⟨e',he'⟩:=qx [] vs 0
 obtain⟨m,hm⟩:∃m,hp.objs.size=m+937:=⟨hp.objs.size-937,by have:=aV w hp hst;omega⟩
 have ly:y+937<hp.objs.size:=Heap.lt_size h2
 refine codeAny_builtin F.entry_proto_collect ?_
 rw[Around.under_plainId F.plain_proto_collect _]
 show wpAny _ A.in1 (newList []>>=λl=>again (.builtin "list.__iadd__" ⟨[l,.ref (y+937)],[]⟩)) _ _ _
 refine wpAny_bind (wpAny_newObj_type ?_)
 refine wpAny_pure ⟨plainId_quiet F.plain_list_iadd _,codeAny_builtin F.entry_list_iadd ?_⟩
 rw[Around.under_plainId F.plain_list_iadd _]
 show wpAny _ A.in1 (Builtin.List.listExtendWith (.ref hp.objs.size) (.ref (y+937)) (.ref hp.objs.size)) _ _ _
 have hS:(hp.push {cls:=.type "list",data:=.seq ([]:List Value).toArray}).get? hp.objs.size=some {cls:=.type "list",data:=.seq #[] 0}:=Heap.get?_push_size _ rfl
 have hS2:(hp.push {cls:=.type "list",data:=.seq ([]:List Value).toArray}).get? hp.objs.size=some (aa [] 0):=by rw[be];exact hS
 have hs:Heap.SameBut hp.objs.size (hp.push {cls:=.type "list",data:=.seq ([]:List Value).toArray}) ((hp.push {cls:=.type "list",data:=.seq ([]:List Value).toArray}).update hp.objs.size (Obj.mapSeq (·++(⟨vs⟩:Array Value)))):=Heap.SameBut.update ..
 refine j9 (A:=A) (R:=bj d os hp hp.objs.size _ _ _ _) _ _ _ _ hT hS (Heap.get?_push_of_some _ h2) hc hdd (by simpa using hz) ?_
 rw[hm]at hs hS hS2 ly⊢
 refine⟨(m,e'),_,tk,g,rfl,trivial,?_,?_,?_,?_,?_⟩
 ·intro p hp'
  simp only[List.cons_append,List.nil_append,FY,FU,or_false]at hp'
  rcases hp' with rfl|rfl
  ·exact(hs.2 _ (Nat.ne_of_lt ly)).trans (Heap.get?_push_of_some _ h2)
  ·have:=Heap.get?_update_self (Obj.mapSeq (·++(⟨vs⟩:Array Value))) hS2 (by rw[he'];rfl)
   rw[he']at this
   exact this
 ·intro p hp'
  simp only[List.cons_append,List.nil_append,FY,FU,or_false]at hp'
  rcases hp' with rfl|rfl
  ·exact .inl (.head _)
  ·exact .inr (Nat.le_refl _)
 ·simp only[List.cons_append,List.nil_append,FR,List.map_nil,List.nodup_cons,FY,FU,or_false,not_false_eq_true,List.nodup_nil,and_true]
  exact Nat.ne_of_lt ly
 ·intro b' o hb' hm'
  have lb:b'<m+937:=by rw[←hm];exact Heap.lt_size hb'
  exact a6 ((hs.2 b' (Nat.ne_of_lt lb)).trans (Heap.get?_push_of_some _ hb'))
 ·rw[hs.1,Heap.size_push,hm]
  exact Nat.le_succ _
theorem eS(hz:vs.length≤sizeLine):Spec w L hd (.builtin "proto.collect" ⟨[.ref (y+937)],[]⟩) [(y+937,jj b vs ep)] (X:=Nat×Nat) (λ_ _=>True) (λn=>.ok (.ret (.ref (n.1+937)))) (λn=>[(y+937,jj b vs ep)]++[(n.1+937,aa vs n.2)]):=λA hp g d tk os Z hst hpre hoff nd=>ik hz A hp g d tk os hst hpre
end
section
variable{w:World}{y ep:Nat}{vs:List Value}{b:Bool}
theorem rQ{A:Around}{hp:Heap}{g:GB}{d:Drawn}{tk:Nat}{os:OsState}{Q:List Value→Shared→Prop}{E:Value→Shared→Prop}(hz:vs.length≤sizeLine)(hst:cb w hp)(ho:hp.get? (y+937)=some (jj b vs ep))
  (h:∀(h':Heap)(tk':Tok)(g':GB),h'.get? (y+937)=some (jj b vs ep)→iX hp h' (md [])→Q vs ⟨h',g',d,tk',os⟩):wpAny (model pw w) A (collect (.ref (y+937))) Q E ⟨hp,g,d,tk,os⟩:=by
 unfold collect
 have z:=ik (w:=w) (ep:=ep) (b:=b) hz A hp g d tk os hst (λp hp'=>by cases FW.mp hp';exact ho)
 refine wpAny_bind (wpAny_runValue (codeAny_mono z λr' s' hr=>?_))
 obtain⟨x,h',tk',g',rfl,_,hpost,_,_,hk⟩:=hr
 have h1:=hpost _ (.head _)
 have h2:=hpost _ (.tail _ (.head _))
 show wpAny _ A (load (x.1+937)>>=_) _ _ _
 refine wpAny_bind (wpAny_load h2 ?_)
 refine wpAny_pure (h h' tk' g' h1 ⟨λc o hc _=>a6 ?_,hk.2⟩)
 by_cases e:c=y+937
 ·subst e
  rw[ho]at hc
  cases hc
  exact h1
 ·exact(hk.1 c o hc (by simpa using e)).1 FU
end
section
variable{w:World}{L:Nat}{hd:Option Value}{y ep:Nat}{vs:List Value}
theorem sO(hz:vs.length≤sizeLine):Spec w L hd (.call (.builtin "tuple.__new__") ⟨[.type "tuple",.ref (y+937)],[]⟩) [(y+937,aa vs ep)] (X:=Nat) (λ_ _=>True) (λn=>.ok (.ret (.ref (n+937)))) (λn=>[(y+937,aa vs ep)]++[(n+937,aW vs)]):=λA hp g d tk os Z hst hpre hoff nd=>by
 have h2:=hpre _ (.head _)
 have ho:=hoff _ (.head _)
 have h2':=h2
 rw[be]at h2'
 have hT:Shared.TypeIs ⟨hp,g,d,tk,os⟩ (.ref (y+937)) "list":=⟨_,h2',rfl⟩
 refine codeAny_call_builtin F.plain_tuple_new F.entry_tuple_new ?_
 refine wpAny_of_eq (F.newCall_tuple_1 _) ?_
 have hsub:=sub_tuple_self
 have hinit:=init_tuple_lookup
 have hmh:=madeHere_tuple
 have hsrc:hp.get? (y+937)=some (jj true vs ep):=h2
 refine fq (A:=A) (R:=bj d os hp hp.objs.size _ _ _ _) ?_
 wp_walk using wpAny_loadPart' h2',wpAny_typeOf hT,rQ hz hst hsrc
 intro h' tk' g' hs' hk
 obtain⟨m,hm⟩:∃m,h'.objs.size=m+937:=⟨h'.objs.size-937,by have:=aV w hp hst;have:=hk.2;lia⟩
 have ly:y+937<h'.objs.size:=Heap.lt_size hs'
 show wpAny _ _ (Builtin.Tuple.tupleExact vs.toArray>>=λv=>ret v) _ _ _
 unfold Builtin.Tuple.tupleExact
 refine wpAny_bind (wpAny_newObj_type ?_ (by show vs.toArray.size≤sizeLine;simpa using hz))
 refine wpAny_pure ⟨_,rfl,?_⟩
 refine⟨m,_,tk',g',by rw[hm],trivial,?_,?_,?_,?_,?_⟩
 ·intro p hp'
  simp only[List.cons_append,List.nil_append,FY,FU,or_false]at hp'
  rcases hp' with rfl|rfl
  ·exact Heap.get?_push_of_some _ hs'
  ·have e:aW vs={cls:=.type "tuple",data:=.seq vs.toArray}:=iP vs
   rw[e,←hm]
   exact Heap.get?_push_size _ rfl
 ·intro p hp'
  simp only[List.cons_append,List.nil_append,FY,FU,or_false]at hp'
  rcases hp' with rfl|rfl
  ·exact .inl (.head _)
  ·exact .inr (hm▸hk.2)
 ·simp only[List.cons_append,List.nil_append,FR,List.map_nil,List.nodup_cons,FY,FU,or_false,not_false_eq_true,List.nodup_nil,and_true]
  rw[←hm]
  exact Nat.ne_of_lt ly
 ·intro c o hc _
  exact a6 (Heap.get?_push_of_some _ ((hk.1 c o hc (by simp)).1 FU))
 ·rw[Heap.size_push]
  exact Nat.le_succ_of_le hk.2
end
section
variable{w:World}{L:Nat}{hd:Option Value}{x y ep:Nat}{vs:List Value}
theorem rP(vs:List Value)(e:Nat):∃e',Obj.mapSeq (λ_=>#[]) (aa vs e)=aa [] e':=⟨_,rfl⟩
theorem pK(hz:vs.length≤sizeLine):Spec w L hd (.call (.builtin "list.clear") ⟨[.ref (x+937)],[]⟩) [(x+937,aa vs ep)] (X:=Nat) (λ_ _=>True) (λ_=>.ok (.ret .none)) (λe=>[(x+937,aa [] e)]):=
 aq F.slot_list_clear F.entry_list_clear (F.args_list_clear_1 _) ((AutoSeq1.list_clear_list_0 (x+937) ⟨vs⟩ ep (by simpa using hz)).inModel pw w) λA hp g d tk os hA hst hpre nd=>by
  have h:=hpre _ (.head _)
  have h':=h
  rw[be]at h'
  obtain⟨e',he⟩:=rP vs ep
  exact⟨⟨_,h',rfl⟩,h',jm (f:=Obj.mapSeq λ_=>#[]) e' rfl trivial h rfl (by rw[he])⟩
theorem wK(hz:vs.length≤sizeLine):Spec w L hd (.builtin "len" ⟨[.ref (x+937)],[]⟩) [(x+937,aW vs)] (X:=Tok) (λ_ _=>True) (λt=>.ok (.ret (.int vs.length t))) (λ_=>[(x+937,aW vs)]):=
 gB plain_len entry_len λA hp g d tk os Z hst hpre nd=>fq (len_body_tuple (items:=⟨vs⟩) ⟨_,hpre _ (.head _),by rw[iP],0,rfl⟩ (by have:=hz;rw[sizeLine_eq]at this;show((vs.length:Nat):Int)<_;lia)
  ⟨_,hp,_,g,rfl,trivial,hpre,λp h=>.inl (FP h),nd,λb o e _=>a6 e,Nat.le_refl _⟩)
theorem mT(hz:vs.length≤sizeLine):Spec w L hd (.call (.builtin "len") ⟨[.ref (x+937)],[]⟩) [(x+937,aW vs)] (X:=Tok) (λ_ _=>True) (λt=>.ok (.ret (.int vs.length t))) (λ_=>[(x+937,aW vs)]):=
 kQ (by kernel_rfl) plain_len entry_len (args_len1 _) λA hp g d tk os Z hst hpre nd=>fq (len_body_tuple (items:=⟨vs⟩) ⟨_,hpre _ (.head _),by rw[iP],0,rfl⟩ (by have:=hz;rw[sizeLine_eq]at this;show((vs.length:Nat):Int)<_;lia)
  ⟨_,hp,_,g,rfl,trivial,hpre,λp h=>.inl (FP h),nd,λb o e _=>a6 e,Nat.le_refl _⟩)
end
end
section
noncomputable def aK(l:List Env):List Addr:=l.filterMap (·.frame)
structure cQ(w:World)(h:Heap)(l:List Env):Prop where
 ok:h.FunFrames {} l
 off:∀a∈aK l,sQ w a
theorem mJ{h:Heap}{l:List Env}(hl:h.FunFrames {} l){b:Addr}(hb:b∈aK l):∃o,h.get? b=some o∧∀vs,o.data≠.fields vs:=(hl.mem hb).2
theorem mI{h h':Heap}:∀{l:List Env},h.FunFrames {} l→(∀a∈aK l,∀o,h.get? a=some o→∃sl,h'.get? a=some (Obj.sl o sl))→h'.FunFrames {} l
 |[],_,_=>trivial
 |env::rest,hl,hk=>by
  obtain⟨h1,⟨L,o,hf,hn,ho,hd⟩,hr⟩:=hl
  have hm:L∈aK (env::rest):=by
   unfold aK
   rw[List.filterMap_cons,hf]
   exact .head _
  obtain⟨sl,e⟩:=hk L hm o ho
  refine⟨h1,⟨L,_,hf,hn,e,hd⟩,mI hr λa ha=>hk a ?_⟩
  unfold aK
  rw[List.filterMap_cons,hf]
  exact .tail _ ha
noncomputable abbrev fM(cls:Value)(a0 a1 a2 a3 a4 a5:Value):Obj:=⟨cls,none,.fields ⟨[a0,a1,a2,a3,a4,a5]⟩,⟨[]⟩⟩
noncomputable abbrev iW(head:Value)(L:Addr)(cs:List Value):Obj:=⟨.type "traceback",none,.fields ⟨[head,.ref L,.none,.none,.none]++cs⟩,⟨[]⟩⟩
section
variable{M:Model}{A:Around}{E:Value→Shared→Prop}{w:World}
theorem Bz{env:Env}{outer:List Env}{L e:Addr}{hp:Heap}{g:GB}{d:Drawn}{tk:Nat}{os:OsState}{cls a0 a2 a3 a4 a5:Value}{Q:Unit→Shared→Prop}
  (hfr:A.frames=some (env::outer)) (ok:cQ w hp (env::outer)) (hf:env.frame=some L) (he:hp.get? e=some (fM cls a0 .none a2 a3 a4 a5)) (hst:cb w hp)
  (h:∀h' T cs,h'.get? e=some (fM cls a0 (.ref (T+937)) a2 a3 a4 a5)→h'.get? (T+937)=some (iW .none L cs)→hp.objs.size≤T+937→T+937≠e→iX hp h' ⟨[e],aK (env::outer)⟩→Q () ⟨h',g,d,tk,os⟩):
  wpAny M A (noteFrame (.ref e) env) (λ_ s2=>wpAny M A (setFlight (.ref e) none) Q E s2) E ⟨hp,g,d,tk,os⟩:=by
 unfold noteFrame
 simp only[hf]
 refine wpAny_bind (wpAny_field he rfl (x:=.none) rfl ?_)
 rw[if_neg (by decide)]
 refine wpAny_bind (wpAny_frameOf_fun hfr ok.ok hf λh₁ hs₁=>?_)
 refine wpAny_bind (wpAny_entryPlaceOf λpl hpl=>?_)
 unfold EntryCells.newEntry newFields
 refine wpAny_bind (wpAny_newObj_type ?_ (hpl.sizeOk5 _ _ _ _ _))
 have hene:e∉aK (env::outer):=λhm=>by
  obtain⟨o,ho,hnf⟩:=mJ ok.ok hm
  rw[he]at ho
  cases ho
  exact hnf _ rfl
 have he1:h₁.get? e=some (fM cls a0 .none a2 a3 a4 a5):=(hs₁.2.1 e hene).trans he
 have hsz:hp.objs.size=h₁.objs.size:=hs₁.1.symm
 obtain⟨T,hT⟩:∃T,h₁.objs.size=T+937:=⟨h₁.objs.size-937,by have:=aV w hp hst;lia⟩
 have hTe:T+937≠e:=by
  rw[←hT]
  exact Nat.ne_of_gt (Heap.lt_size he1)
 generalize hcs:(if pl.isEmpty then List.replicate 6 Value.none else pl)=cs
 have he2:(h₁.push {cls:=.type "traceback",dict:=none,data:=.fields ([Value.none,.ref L,.none,rawInt L,.none]++cs).toArray}).get? e=some (fM cls a0 .none a2 a3 a4 a5):=Heap.get?_push_of_some _ he1
 refine wpAny_setField he2 rfl (by simp) ?_
 have s2:Heap.SameBut e (h₁.push {cls:=.type "traceback",dict:=none,data:=.fields ([Value.none,.ref L,.none,rawInt L,.none]++cs).toArray}) _:=Heap.SameBut.update _ e (Obj.mapFields (·.setIfInBounds 1 (Value.ref h₁.objs.size)))
 have he3:=Heap.get?_update_self (Obj.mapFields (·.setIfInBounds 1 (Value.ref h₁.objs.size))) he2 rfl
 have hT3:=(s2.2 h₁.objs.size (hT▸hTe)).trans (Heap.get?_push_size h₁ rfl)
 unfold setFlight
 refine wpAny_bind (wpAny_field he3 rfl (x:=.ref h₁.objs.size) rfl ?_)
 rw[if_pos (show(Value.ref h₁.objs.size != Value.none)=true from by simp)]
 refine wpAny_setField hT3 rfl (by simp only[List.size_toArray,FZ,FT,List.length_nil];lia) ?_
 have s3:=Heap.SameBut.update ((h₁.push {cls:=.type "traceback",dict:=none,data:=.fields ([Value.none,.ref L,.none,rawInt L,.none]++cs).toArray}).update e (Obj.mapFields (·.setIfInBounds 1 (Value.ref h₁.objs.size)))) h₁.objs.size (Obj.mapFields (·.setIfInBounds 3 ((none:Option Addr).elim Value.none λf=>rawInt f)))
 have hT4:=Heap.get?_update_self (Obj.mapFields (·.setIfInBounds 3 ((none:Option Addr).elim Value.none λf=>rawInt f))) hT3 rfl
 refine h _ T cs ?_ ?_ (by lia) hTe ⟨λb o hb hm=>?_,?_⟩
 ·rw[s3.2 e (by rw[hT];exactλq=>hTe q.symm),he3,hT]
  rfl
 ·rw[←hT,hT4]
  simp[iW,Obj.mapFields,rawInt]
 ·have hbe:b≠e:=by simpa using hm
  have lb:b<T+937:=by rw[←hT,←hsz];exact Heap.lt_size hb
  have key:∀o',h₁.get? b=some o'→_=some o':=λo' q=>((s3.2 b (by rw[hT];exact Nat.ne_of_lt lb)).trans (s2.2 b hbe)).trans (Heap.get?_push_of_some _ q)
  obtain⟨sl,k2⟩:=hs₁.2.2 b o hb
  exact⟨λhf=>key o ((hs₁.2.1 b hf).trans hb),sl,key _ k2⟩
 ·rw[s3.1,s2.1,Heap.size_push,hsz]
  exact Nat.le_succ _
theorem BA{env:Env}{outer:List Env}{L e:Addr}{hp:Heap}{g:GB}{d:Drawn}{tk:Nat}{os:OsState}{cls a0 a2 a3 a4 a5 hd1:Value}{T1 L1:Addr}{cs1:List Value}{Q:Unit→Shared→Prop}
  (hfr:A.frames=some (env::outer)) (ok:cQ w hp (env::outer)) (hf:env.frame=some L) (he:hp.get? e=some (fM cls a0 (.ref T1) a2 a3 a4 a5)) (ht:hp.get? T1=some (iW hd1 L1 cs1)) (hne:T1≠e) (hst:cb w hp)
  (h:∀h' T cs,h'.get? e=some (fM cls a0 (.ref (T+937)) a2 a3 a4 a5)→h'.get? (T+937)=some (iW (.ref T1) L cs)→hp.objs.size≤T+937→T+937≠e→iX hp h' ⟨[e,T1],aK (env::outer)⟩→Q () ⟨h',g,d,tk,os⟩):
  wpAny M A (noteFrame (.ref e) env) (λ_ s2=>wpAny M A (setFlight (.ref e) none) Q E s2) E ⟨hp,g,d,tk,os⟩:=by
 unfold noteFrame
 simp only[hf]
 refine wpAny_bind (wpAny_field he rfl (x:=.ref T1) rfl ?_)
 rw[if_pos (show(Value.ref T1 != Value.none)=true from by simp)]
 refine wpAny_bind (wpAny_field ht rfl (x:=.none) (by simp) ?_)
 rw[if_neg (show¬((Value.none==rawInt L)=true)from by simp[rawInt])]
 refine wpAny_bind (wpAny_setField ht rfl (by simp only[FZ,FT,List.length_nil,Array.size];lia) ?_)
 have s0:=Heap.SameBut.update hp T1 (Obj.mapFields (·.setIfInBounds 3 Value.none))
 have ok0:(hp.update T1 (Obj.mapFields (·.setIfInBounds 3 Value.none))).FunFrames {} (env::outer):=mI ok.ok λa ha o ho=>by
  have:a≠T1:=λq=>by
   obtain⟨o',ho',hnf⟩:=mJ ok.ok ha
   rw[q,ht]at ho'
   cases ho'
   exact hnf _ rfl
  exact⟨o.slots,(s0.2 a this).trans ho⟩
 refine wpAny_bind (wpAny_frameOf_fun hfr ok0 hf λh₁ hs₁=>?_)
 refine wpAny_bind (wpAny_entryPlaceOf λpl hpl=>?_)
 unfold EntryCells.newEntry newFields
 refine wpAny_bind (wpAny_newObj_type ?_ (hpl.sizeOk5 _ _ _ _ _))
 have hene:e∉aK (env::outer):=λhm=>by
  obtain⟨o,ho,hnf⟩:=mJ ok.ok hm
  rw[he]at ho
  cases ho
  exact hnf _ rfl
 have he1:h₁.get? e=some (fM cls a0 (.ref T1) a2 a3 a4 a5):=(hs₁.2.1 e hene).trans ((s0.2 e hne.symm).trans he)
 have hsz:hp.objs.size=h₁.objs.size:=(hs₁.1.trans s0.1).symm
 obtain⟨T,hT⟩:∃T,h₁.objs.size=T+937:=⟨h₁.objs.size-937,by have:=aV w hp hst;lia⟩
 have hTe:T+937≠e:=by
  rw[←hT]
  exact Nat.ne_of_gt (Heap.lt_size he1)
 generalize hcs:(if pl.isEmpty then List.replicate 6 Value.none else pl)=cs
 have he2:(h₁.push {cls:=.type "traceback",dict:=none,data:=.fields ([Value.ref T1,.ref L,.none,rawInt L,.none]++cs).toArray}).get? e=some (fM cls a0 (.ref T1) a2 a3 a4 a5):=Heap.get?_push_of_some _ he1
 refine wpAny_setField he2 rfl (by simp) ?_
 have s2:Heap.SameBut e (h₁.push {cls:=.type "traceback",dict:=none,data:=.fields ([Value.ref T1,.ref L,.none,rawInt L,.none]++cs).toArray}) _:=Heap.SameBut.update _ e (Obj.mapFields (·.setIfInBounds 1 (Value.ref h₁.objs.size)))
 have he3:=Heap.get?_update_self (Obj.mapFields (·.setIfInBounds 1 (Value.ref h₁.objs.size))) he2 rfl
 have hT3:=(s2.2 h₁.objs.size (hT▸hTe)).trans (Heap.get?_push_size h₁ rfl)
 unfold setFlight
 refine wpAny_bind (wpAny_field he3 rfl (x:=.ref h₁.objs.size) rfl ?_)
 rw[if_pos (show(Value.ref h₁.objs.size != Value.none)=true from by simp)]
 refine wpAny_setField hT3 rfl (by simp only[List.size_toArray,FZ,FT,List.length_nil];lia) ?_
 have s3:=Heap.SameBut.update ((h₁.push {cls:=.type "traceback",dict:=none,data:=.fields ([Value.ref T1,.ref L,.none,rawInt L,.none]++cs).toArray}).update e (Obj.mapFields (·.setIfInBounds 1 (Value.ref h₁.objs.size)))) h₁.objs.size (Obj.mapFields (·.setIfInBounds 3 ((none:Option Addr).elim Value.none λf=>rawInt f)))
 have hT4:=Heap.get?_update_self (Obj.mapFields (·.setIfInBounds 3 ((none:Option Addr).elim Value.none λf=>rawInt f))) hT3 rfl
 refine h _ T cs ?_ ?_ (by lia) hTe ⟨λb o hb hm=>?_,?_⟩
 ·rw[s3.2 e (by rw[hT];exactλq=>hTe q.symm),he3,hT]
  rfl
 ·rw[←hT,hT4]
  simp[iW,Obj.mapFields,rawInt]
 ·have hbe:b≠e∧b≠T1:=by simpa using hm
  have lb:b<T+937:=by rw[←hT,←hsz];exact Heap.lt_size hb
  have hb0:=(s0.2 b hbe.2).trans hb
  have key:∀o',h₁.get? b=some o'→_=some o':=λo' q=>((s3.2 b (by rw[hT];exact Nat.ne_of_lt lb)).trans (s2.2 b hbe.1)).trans (Heap.get?_push_of_some _ q)
  obtain⟨sl,k2⟩:=hs₁.2.2 b o hb0
  exact⟨λhf=>key o ((hs₁.2.1 b hf).trans hb0),sl,key _ k2⟩
 ·rw[s3.1,s2.1,Heap.size_push,hsz]
  exact Nat.le_succ _
end
noncomputable def aR(w:World)(L:Nat)(hd:Option Value)(pf:List Env)(c:Code)(pre:ah){X:Type}(C:Nat→X→Prop)(r:X→Result)(post:X→ah):Prop:=
 ∀(A:Around)(h:Heap)(g:GB)(d:Drawn)(tk:Nat)(os:OsState)(outer:List Env),Rm A L hd→A.frames=some (pf++outer)→cQ w h (pf++outer)→(∀a∈aK outer,a∉pre.map (·.1))→cb w h→k8 h pre→(∀p∈pre,sQ w p.1)→(pre.map (·.1)).Nodup→
  codeAny (model pw w) A c (bj d os h h.objs.size ⟨pre.map (·.1),aK outer⟩ C r post) ⟨h,g,d,tk,os⟩
noncomputable def jq(w:World)(L:Nat)(hd:Option Value)(pf:List Env)(c:Code)(t:Sem Flow)(pre:ah){X:Type}(C:Nat→X→Prop)(r:X→Result)(post:X→ah):Prop:=
 ∀(A:Around)(h:Heap)(g:GB)(d:Drawn)(tk:Nat)(os:OsState)(outer:List Env),Rm A L hd→A.frames=some (pf++outer)→cQ w h (pf++outer)→(∀a∈aK outer,a∉pre.map (·.1))→cb w h→k8 h pre→(∀p∈pre,sQ w p.1)→(pre.map (·.1)).Nodup→
  wpOwn (model pw w) A c t (λfl s'=>bj d os h h.objs.size ⟨pre.map (·.1),aK outer⟩ C r post (.ok fl) s') (λe s'=>bj d os h h.objs.size ⟨pre.map (·.1),aK outer⟩ C r post (.error e) s') ⟨h,g,d,tk,os⟩
theorem iX.more{h h':Heap}{l:List Addr}(fs:List Addr)(k:iX h h' (md l)):iX h h' ⟨l,fs⟩:=⟨λb o e hb=>a6 ((k.1 b o e hb).1 FU),k.2⟩
theorem Spec.toN{w:World}{L:Nat}{hd:Option Value}{c:Code}{pre:ah}{X:Type}{C:Nat→X→Prop}{r:X→Result}{post:X→ah}(S:Spec w L hd c pre C r post)(pf:List Env):aR w L hd pf c pre C r post:=
 λA h g d tk os outer Z _ _ _ hst hpre hoff nd=>codeAny_mono (S A h g d tk os Z hst hpre hoff nd) λr' s' hr=>by
  obtain⟨x,h',tk',g',e2,hC,hpost,hnl,hnn,hk⟩:=hr
  exact⟨x,h',tk',g',e2,hC,hpost,hnl,hnn,hk.more _⟩
structure Nz(w:World)(A:Around)(hb:Heap)(m0:cM)(pf outer:List Env):Prop where
 fr:A.frames=some (pf++outer)
 ok:cQ w hb outer
 fs:m0.fs=aK outer
 dis:∀a∈aK outer,a∉m0.l
theorem fp(a b:List Env):aK (a++b)=aK a++aK b:=List.filterMap_append
theorem lI{h:Heap}:∀{a b:List Env},h.FunFrames {} a→h.FunFrames {} b→h.FunFrames {} (a++b)
 |[],_,_,hb=>hb
 |_::_,_,⟨h1,h2,h3⟩,hb=>⟨h1,h2,lI h3 hb⟩
theorem ip{h:Heap}:∀{a b:List Env},h.FunFrames {} (a++b)→h.FunFrames {} a∧h.FunFrames {} b
 |[],_,hb=>⟨trivial,hb⟩
 |_::_,_,⟨h1,h2,h3⟩=>⟨⟨h1,h2,(ip h3).1⟩,(ip h3).2⟩
theorem cQ.append{w:World}{h:Heap}{a b:List Env}(x:cQ w h a)(y:cQ w h b):cQ w h (a++b):=
 ⟨lI x.ok y.ok,λq hq=>by rw[fp]at hq;exact(F0.mp hq).elim (x.off q) (y.off q)⟩
theorem cQ.split{w:World}{h:Heap}{a b:List Env}(x:cQ w h (a++b)):cQ w h a∧cQ w h b:=
 ⟨⟨(ip x.ok).1,λq hq=>x.off q (by rw[fp];exact FN _ hq)⟩,⟨(ip x.ok).2,λq hq=>x.off q (by rw[fp];exact FO _ hq)⟩⟩
section
variable{w:World}{hd:Option Value}{A:Around}{R:Result→Shared→Prop}{d:Drawn}{os:OsState}{hb:Heap}{m0:cM}{g:GB}{fr:ah}{s:St}{L L':Nat}{c:Code}{pf outer:List Env}
theorem Nz.now(N:Nz w A hb m0 pf outer){hp:Heap}{oo:ah}{nx:Nat}(H:aI (bo w) hb m0 hp oo nx):cQ w hp outer:=
 ⟨mI N.ok.ok λa ha o ho=>(H.keep a o ho (N.dis a ha)).2,N.ok.off⟩
theorem Nz.notin(N:Nz w A hb m0 pf outer){hp:Heap}{oo:ah}{nx:Nat}(H:aI (bo w) hb m0 hp oo nx):∀p∈oo,p.1∉aK outer:=λp hp' hm=>by
 obtain⟨o,ho,_⟩:=mJ N.ok.ok hm
 rcases H.low p hp' with z|z
 ·exact N.dis _ hm z
 ·exact absurd (Heap.lt_size ho) (Nat.not_lt.mpr z)
noncomputable def i8:Kont→List Env
 |.ret c _ _ κ=>c.envs++i8 κ
 |_=>[]
theorem gy(V:XV):∀κ:Kont,(aroundOf V true κ).frames=V.A₀.frames.map (i8 κ++·)
 |.base=>by show V.A₀.frames=_;cases V.A₀.frames<;>rfl
 |.ret c hd k κ=>by
  show pushEnvs c.envs (aroundOf V true κ).frames=_
  rw[pushEnvs_eq,gy V κ]
  cases V.A₀.frames with
  |none=>rfl
  |some l=>simp[i8]
 |.gen ..=>by show V.A₀.frames=_;cases V.A₀.frames<;>rfl
 |.genS ..=>by show V.A₀.frames=_;cases V.A₀.frames<;>rfl
noncomputable def zb(s:St):List Env:=s.C.envs++i8 s.K
noncomputable def dW(o:Obj):Bool:=match o.data with
 |.fields _=>false
 |_=>true
theorem oF{o:Obj}(h:dW o=true):∀vs,o.data≠.fields vs:=λvs e=>by
 unfold dW at h
 rw[e]at h
 cases h
noncomputable def cS(e:Env):Bool:=match e.scope.kind with
 |.module=>false
 |_=>true
theorem ng{e:Env}(h:cS e=true):e.scope.kind≠.module:=λq=>by
 unfold cS at h
 rw[q]at h
 cases h
theorem bx{kt:Addr→Option Obj}{hp:Heap}{oo:ah}{nx:Nat}{env:Env}{a:Addr}{fo:Obj}(hkt:kt=bo w)(H:aI kt hb m0 hp oo nx)(hm:(a,fo)∈oo)(hf:env.frame=some a)(hn:cS env=true)(nf:dW fo=true):cQ w hp [env]:=by
 subst hkt
 refine⟨⟨ng hn,⟨a,fo,hf,?_,H.own _ hm,oF nf⟩,trivial⟩,λb hb'=>?_⟩
 ·simp[Heap.get?]
 ·unfold aK at hb'
  rw[List.filterMap_cons,hf]at hb'
  cases FW.mp hb'
  exact H.off _ hm
theorem cn{X:Type}{C:Nat→X→Prop}{r:X→Result}(F:fP w hd A R d os hb m0)(Z:Rm A L hd)(N:Nz w A hb m0 pf outer)(n pl:Nat){hd':Option Value}(preF preR frR:ah)(postF new postR:X→ah)(S:aR w L' hd' [] c (preF++preR) C r λx=>postF x++new x++postR x)(sel:List Nat)(k:Nat)(env:Env)(a:Addr)(fo:Obj)(hfr:fr.Perm (preR++frR))(h:∀(x:X)(m tk:Nat)(g':GB)(σ:Array (Option Value)),C (go (ag w hd) n pl s).S.N x→let sS:=((go (ag w hd) n pl s).S.next (λt=>cu t (r x)) (λos=>bp os (sel++[k]) (postF x++[(a,Obj.sl fo σ)])++new x) (m+937) tk);Gd (aG w A R d os hb m0 g' (postR x++frR)) sS)(hpm:∀x,(postF x).map (·.1)=preF.map (·.1):=by exactλ_=>rfl)(hf:env.frame=some a:=by rfl)(ok:((go (ag w hd) n pl s).Y&&(cg 0 (sel++[k])&&(pS L' L&&(dh (go (ag w hd) n pl s).S&&(cS env&&dW fo)))))=true:=by kernel_rfl)(ab:(go (ag w hd) n pl s).A=(go (ag w hd) n pl s).B:=by kernel_rfl)(ec:ce (go (ag w hd) n pl s).S.T=c:=by kernel_rfl)(hh:aB hd (go (ag w hd) n pl s).S.K=hd':=by kernel_rfl)(hE:zb (go (ag w hd) n pl s).S++pf=[env]:=by kernel_rfl)(hsel:bu (go (ag w hd) n pl s).S.O (sel++[k])=(preF++[(a,fo)]).map some:=by kernel_rfl):Gd (aG w A R d os hb m0 g fr) s:=by
 simp only[Bool.and_eq_true]at ok
 refine eI (F g fr) n pl ok.1 ab ?_
 obtain⟨_,hs,hl,ic,hnm,hnf⟩:=ok
 revert ec hh hE hsel h ic
 generalize (go (ag w hd) n pl s).S=s
 intro h ec hh hE hsel ic
 obtain⟨ic,eh,ed,eu⟩:=dK ic
 have ic:cG s.t=true:=ic
 have ec:ce s.t=c:=ec
 have eh:b9 s.t=none:=eh
 have hsel:bu s.os (sel++[k])=(preF++[(a,fo)]).map some:=hsel
 have hh:aB hd s.κ=hd':=hh
 have hE:s.c.envs++i8 s.κ++pf=[env]:=hE
 have ed:n7 s.κ+wt s.c≤40:=ed
 have eu:sP s.κ+un s.c≤100:=eu
 have h:∀(x:X)(m tk:Nat)(g':GB)(σ:Array (Option Value)),C s.nx x→Gd (aG w A R d os hb m0 g' (postR x++frR)) ⟨s.c,s.κ,cu s.t (r x),bp s.os (sel++[k]) (postF x++[(a,Obj.sl fo σ)])++new x,m+937,tk⟩:=h
 refine⟨λhp H=>?_⟩
 have H:aI (bo w) hb m0 hp (s.os++fr) s.nx:=H
 obtain⟨gd,l,sh⟩:=ci ic
 show wpOwn _ _ _ s.t _ _ _
 rw[sh,ec,eh]
 refine y_call _ _ _ _ _ _ _ _ _ _ _ _ _ (by intro e;cases e) ?_
 have hdep:=eK (bF w A R d os) s.κ
 have hun:=gn (bF w A R d os) s.κ
 have e1:s.c.weight=wt s.c:=by rw[fJ]
 have e2:s.c.cUnits=un s.c:=by rw[gO]
 have e3:(bF w A R d os).A₀.depth=A.depth:=rfl
 have e4:(bF w A R d os).A₀.units=A.units:=rfl
 have hD:=lS hl Z.d
 have hU:=lU hl Z.u
 have hhd:((aroundOf (bF w A R d os) true s.κ).under s.c|>.mark none).handled=hd':=by
  show(none:Option Value).or (aroundOf (bF w A R d os) true s.κ).handled=hd'
  rw[bv]
  show aB A.handled s.κ=hd'
  rw[Z.h,hh]
 have hff:((aroundOf (bF w A R d os) true s.κ).under s.c|>.mark none).frames=some ([]++(env::outer)):=by
  show pushEnvs s.c.envs (aroundOf (bF w A R d os) true s.κ).frames=_
  rw[pushEnvs_eq,gy]
  show((A.frames.map (i8 s.κ++·)).map (s.c.envs++·))=_
  rw[N.fr]
  show some (s.c.envs++(i8 s.κ++(pf++outer)))=some (env::outer)
  rw[←FV,←FV,hE]
  rfl
 have nd':=jv H hs hsel hfr
 have nd:((preF++preR).map (·.1)).Nodup:=by
  refine(List.Sublist.nodup ?_ nd')
  rw[FM,FM,FM]
  exact(List.sublist_append_left _ _).append_right _
 have ha:a∉(preF++preR).map (·.1):=λhm=>by
  rw[FM,FM,FV]at nd'
  have z:=(List.nodup_append.mp nd')
  rw[FM]at hm
  rcases F0.mp hm with q|q
  ·exact z.2.2 a q a (by simp) rfl
  ·exact(List.nodup_append.mp z.2.1).2.2 a (by simp) a q rfl
 have mem:∀p∈preF++preR,p∈s.os++fr:=λp hp'=>dg hsel hfr p (by
  rcases F0.mp hp' with q|q
  ·exact FN _ (FN _ q)
  ·exact FO _ q)
 have memk:(a,fo)∈s.os++fr:=dg hsel hfr _ (FN _ (FO _ (.head _)))
 have fok:cQ w hp (env::outer):=(bx rfl H memk hf hnm hnf).append (N.now H)
 have fad:aK (env::outer)=a::aK outer:=by
  unfold aK
  rw[List.filterMap_cons,hf]
 have z:=S (((aroundOf (bF w A R d os) true s.κ).under s.c).mark none) hp g d s.tk os (env::outer) ⟨hhd,
  (by show(aroundOf (bF w A R d os) true s.κ).depth+s.c.weight≤DL L';lia),(by show(aroundOf (bF w A R d os) true s.κ).units+s.c.cUnits≤UL L';lia)⟩
  hff fok (λb hb' hm=>by
   rw[fad]at hb'
   rcases FY.mp hb' with q|q
   ·exact ha (q▸hm)
   ·obtain⟨p,hp',rfl⟩:=FX.mp hm
    exact N.notin H p (mem p hp') q)
  H.st (λp hpm=>H.own p (mem p hpm)) (λp hpm=>H.off p (mem p hpm)) nd
 refine codeAny_mono z λr' s' hr=>?_
 obtain⟨x,h',tk',g',rfl,hC,hpost,hnl,hnn,hk⟩:=hr
 have hsz:hp.objs.size=s.nx:=H.size
 have hbg:937≤hp.objs.size:=aV w hp H.st
 obtain⟨m,hm⟩:∃m,h'.objs.size=m+937:=⟨h'.objs.size-937,by have:=hk.2;lia⟩
 obtain⟨σ,hσ⟩:=(hk.1 a fo (H.own _ memk) ha).2
 have lta:a<hp.objs.size:=Heap.lt_size (H.own _ memk)
 have A':=d7 H hsel hfr nd' (postF:=postF x++[(a,Obj.sl fo σ)]) (new:=new x) (postR:=postR x) (by rw[FM,FM,hpm x];rfl)
  (λp hp'=>by
   rcases F0.mp hp' with q|q
   ·rcases F0.mp q with q|q
    ·rcases F0.mp q with q|q
     ·exact hpost p (FN _ (FN _ q))
     ·cases FW.mp q
      exact hσ
    ·exact hpost p (FN _ (FO _ q))
   ·exact hpost p (FO _ q))
  (λp hp'=>by
   have old:p∈postF x++new x++postR x→p.1∈(preF++[(a,fo)]++preR).map (·.1)∨hp.objs.size≤p.1:=λq=>(hnl p q).imp (λz=>by
    rw[FM]at z
    rw[FM,FM]
    rcases F0.mp z with z|z
    ·exact FN _ (FN _ z)
    ·exact FO _ z) id
   rcases F0.mp hp' with q|q
   ·rcases F0.mp q with q|q
    ·rcases F0.mp q with q|q
     ·exact old (FN _ (FN _ q))
     ·cases FW.mp q
      exact .inl (by simp)
    ·exact old (FN _ (FO _ q))
   ·exact old (FO _ q))
  (by
   have na:a∉(postF x++new x++postR x).map (·.1):=λq=>by
    obtain⟨p,hp',e⟩:=FX.mp q
    rcases hnl p hp' with z|z
    ·exact ha (e▸z)
    ·exact absurd lta (Nat.not_lt.mpr (e▸z))
   have pm:(postF x++[(a,Obj.sl fo σ)]++new x++postR x).Perm ((a,Obj.sl fo σ)::(postF x++new x++postR x)):=by
    rw[FV,FV,FV]
    exact List.perm_middle
   refine((pm.map _).nodup_iff).mpr ?_
   rw[FR]
   exact List.nodup_cons.mpr ⟨na,hnn⟩)
  (fs:=aK outer) (λb hb'=>N.fs▸hb') (N.notin H) N.ok.off
  ⟨λb o hb' hn=>by
   have hn':b∉(preF++preR).map (·.1)∧b≠a:=by
    rw[FM,FM]at hn
    simp only[F0,not_or]at hn
    refine⟨λq=>?_,by simpa using hn.1.2⟩
    rw[FM]at q
    exact(F0.mp q).elim hn.1.1 hn.2
   obtain⟨k1,k2⟩:=hk.1 b o hb' hn'.1
   exact⟨λq=>k1 (by rw[fad];exactλz=>(FY.mp z).elim hn'.2 q),k2⟩,hk.2⟩
 rw[hm]at A'
 exact(h x m tk' g' σ (hsz▸hC)).run h' A'
theorem cm{X:Type}{C:Nat→X→Prop}{r:X→Result}(F:fP w hd A R d os hb m0)(Z:Rm A L hd)(N:Nz w A hb m0 pf outer)(n pl:Nat){hd':Option Value}(preF preR frR:ah)(postF new postR:X→ah)(env:Env)(a:Addr)(fo:Obj)(S:aR w L' hd' [env] c (preF++preR) C r λx=>postF x++new x++postR x)(sel:List Nat)(hfr:fr.Perm (preR++frR))(hmem:(a,fo)∈preF)(h:∀(x:X)(m tk:Nat)(g':GB),C (go (ag w hd) n pl s).S.N x→let sS:=((go (ag w hd) n pl s).S.next (λt=>cu t (r x)) (λos=>bp os sel (postF x)++new x) (m+937) tk);Gd (aG w A R d os hb m0 g' (postR x++frR)) sS)(hpm:∀x,(postF x).map (·.1)=preF.map (·.1):=by exactλ_=>rfl)(hf:env.frame=some a:=by rfl)(ok:((go (ag w hd) n pl s).Y&&(cg 0 sel&&(pS L' L&&(dh (go (ag w hd) n pl s).S&&(cS env&&dW fo)))))=true:=by kernel_rfl)(ab:(go (ag w hd) n pl s).A=(go (ag w hd) n pl s).B:=by kernel_rfl)(ec:ce (go (ag w hd) n pl s).S.T=c:=by kernel_rfl)(hh:aB hd (go (ag w hd) n pl s).S.K=hd':=by kernel_rfl)(hE:zb (go (ag w hd) n pl s).S++pf=[env]:=by kernel_rfl)(hsel:bu (go (ag w hd) n pl s).S.O sel=preF.map some:=by kernel_rfl):Gd (aG w A R d os hb m0 g fr) s:=by
 simp only[Bool.and_eq_true]at ok
 refine eI (F g fr) n pl ok.1 ab ?_
 obtain⟨_,hs,hl,ic,hnm,hnf⟩:=ok
 revert ec hh hE hsel h ic
 generalize (go (ag w hd) n pl s).S=s
 intro h ec hh hE hsel ic
 obtain⟨ic,eh,ed,eu⟩:=dK ic
 have ic:cG s.t=true:=ic
 have ec:ce s.t=c:=ec
 have eh:b9 s.t=none:=eh
 have hsel:bu s.os sel=preF.map some:=hsel
 have hh:aB hd s.κ=hd':=hh
 have hE:s.c.envs++i8 s.κ++pf=[env]:=hE
 have ed:n7 s.κ+wt s.c≤40:=ed
 have eu:sP s.κ+un s.c≤100:=eu
 have h:∀(x:X)(m tk:Nat)(g':GB),C s.nx x→Gd (aG w A R d os hb m0 g' (postR x++frR)) ⟨s.c,s.κ,cu s.t (r x),bp s.os sel (postF x)++new x,m+937,tk⟩:=h
 refine⟨λhp H=>?_⟩
 have H:aI (bo w) hb m0 hp (s.os++fr) s.nx:=H
 obtain⟨gd,l,sh⟩:=ci ic
 show wpOwn _ _ _ s.t _ _ _
 rw[sh,ec,eh]
 refine y_call _ _ _ _ _ _ _ _ _ _ _ _ _ (by intro e;cases e) ?_
 have hdep:=eK (bF w A R d os) s.κ
 have hun:=gn (bF w A R d os) s.κ
 have e1:s.c.weight=wt s.c:=by rw[fJ]
 have e2:s.c.cUnits=un s.c:=by rw[gO]
 have e3:(bF w A R d os).A₀.depth=A.depth:=rfl
 have e4:(bF w A R d os).A₀.units=A.units:=rfl
 have hD:=lS hl Z.d
 have hU:=lU hl Z.u
 have hhd:((aroundOf (bF w A R d os) true s.κ).under s.c|>.mark none).handled=hd':=by
  show(none:Option Value).or (aroundOf (bF w A R d os) true s.κ).handled=hd'
  rw[bv]
  show aB A.handled s.κ=hd'
  rw[Z.h,hh]
 have hff:((aroundOf (bF w A R d os) true s.κ).under s.c|>.mark none).frames=some ([env]++outer):=by
  show pushEnvs s.c.envs (aroundOf (bF w A R d os) true s.κ).frames=_
  rw[pushEnvs_eq,gy]
  show((A.frames.map (i8 s.κ++·)).map (s.c.envs++·))=_
  rw[N.fr]
  show some (s.c.envs++(i8 s.κ++(pf++outer)))=some (env::outer)
  rw[←FV,←FV,hE]
  rfl
 have nd:=jv H hs hsel hfr
 have mem:∀p∈preF++preR,p∈s.os++fr:=λp hp'=>dg hsel hfr p hp'
 have fok:cQ w hp ([env]++outer):=(bx rfl H (mem _ (FN _ hmem)) hf hnm hnf).append (N.now H)
 have z:=S (((aroundOf (bF w A R d os) true s.κ).under s.c).mark none) hp g d s.tk os outer ⟨hhd,
  (by show(aroundOf (bF w A R d os) true s.κ).depth+s.c.weight≤DL L';lia),(by show(aroundOf (bF w A R d os) true s.κ).units+s.c.cUnits≤UL L';lia)⟩
  hff fok (λb hb' hm=>by
   obtain⟨p,hp',rfl⟩:=FX.mp hm
   exact N.notin H p (mem p hp') hb')
  H.st (λp hpm=>H.own p (mem p hpm)) (λp hpm=>H.off p (mem p hpm)) nd
 refine codeAny_mono z λr' s' hr=>?_
 obtain⟨x,h',tk',g',rfl,hC,hpost,hnl,hnn,hk⟩:=hr
 have hsz:hp.objs.size=s.nx:=H.size
 have hbg:937≤hp.objs.size:=aV w hp H.st
 obtain⟨m,hm⟩:∃m,h'.objs.size=m+937:=⟨h'.objs.size-937,by have:=hk.2;lia⟩
 have A':=d7 H hsel hfr nd (hpm x) hpost hnl hnn (fs:=aK outer) (λb hb'=>N.fs▸hb') (N.notin H) N.ok.off hk
 rw[hm]at A'
 exact(h x m tk' g' (hsz▸hC)).run h' A'
variable{X:Type}{C:Nat→X→Prop}{r:X→Result}{post:X→ah}{nb:Nat}
theorem km(N:Nz w A hb m0 pf outer){hp h':Heap}{oo:ah}{nx:Nat}{l:List Addr}(H:aI (bo w) hb m0 hp oo nx)(hl:∀a∈l,a∈oo.map (·.1))(hk:iX hp h' ⟨l,aK outer⟩):iX hb h' m0:=
 ⟨λb o e hb'=>by
  have hn:b∉l:=λhm=>by
   obtain⟨p,hp',e'⟩:=FX.mp (hl b hm)
   rcases H.low p hp' with z|z
   ·exact hb' (e'▸z)
   ·exact absurd (Heap.lt_size e) (Nat.not_lt.mpr (e'▸z))
  obtain⟨k1,sl,k2⟩:=H.keep b o e hb'
  obtain⟨_,sl2,k3⟩:=hk.1 b _ k2 hn
  exact⟨λq=>(hk.1 b o (k1 q) hn).1 (N.fs▸q),sl2,k3⟩,Nat.le_trans (H.size▸H.grow) hk.2⟩
theorem an(F:fP w hd A R d os hb m0)(E:jF d os hb nb m0 C r post R)(Z:Rm A L hd)(N:Nz w A hb m0 pf outer)(n pl:Nat){X':Type}{C':Nat→X'→Prop}{r':X'→Result}{post':X'→ah}(preF preR frR:ah)(S:aR w L hd pf c (preF++preR) C' r' post')(sel:List Nat)(hfr:fr.Perm (preR++frR))(hpf:∀hp nx,aI (bo w) hb m0 hp (preF++preR) nx→cQ w hp pf)(h:∀n x',nb≤n→C' n x'→∃x,C nb x∧r' x'=r x∧(∀p∈post x,p∈post' x')∧(((post' x').map (·.1)).Nodup→((post x).map (·.1)).Nodup))(ok:((go (ag w hd) n pl s).Y&&(cg 0 sel&&(qq c&&(dC (go (ag w hd) n pl s).S.T&&dM (go (ag w hd) n pl s).S.K))))=true:=by kernel_rfl)(ab:(go (ag w hd) n pl s).A=(go (ag w hd) n pl s).B:=by kernel_rfl)(ec:ff (go (ag w hd) n pl s).S.T=c:=by kernel_rfl)(hsel:bu (go (ag w hd) n pl s).S.O sel=preF.map some:=by kernel_rfl):Gd (aG w A R d os hb m0 g fr) s:=by
 simp only[Bool.and_eq_true]at ok
 refine eI (F g fr) n pl ok.1 ab ?_
 obtain⟨_,hs,hq,ic,hkb⟩:=ok
 revert hsel ec ic hkb
 generalize (go (ag w hd) n pl s).S=s'
 intro ec hsel ic hkb
 refine⟨λhp H=>?_⟩
 obtain⟨c',κ,t,oo,nx,tk⟩:=s'
 have ic:dC t=true:=ic
 have ec:ff t=c:=ec
 have hkb:dM κ=true:=hkb
 have hsel:bu oo sel=preF.map some:=hsel
 have H:aI (bo w) hb m0 hp (oo++fr) nx:=H
 obtain rfl:κ=.base:=mA hkb
 obtain rfl:t=.pure (.again c):=nR ic ec
 refine y_pure _ _ _ _ _ _ _ _ _ (y_again _ _ _ _ _ _ (by rw[oP];exact hq) ?_)
 have nd:=jv H hs hsel hfr
 have mem:∀p∈preF++preR,p∈oo++fr:=λp hpm=>dg hsel hfr p hpm
 have z:=S A hp g d tk os outer Z N.fr ((hpf hp nx (H.sub mem nd)).append (N.now H)) (λb hb' hm=>by
   obtain⟨p,hp',rfl⟩:=FX.mp hm
   exact N.notin H p (mem p hp') hb')
  H.st (λp hpm=>H.own p (mem p hpm)) (λp hpm=>H.off p (mem p hpm)) nd
 refine codeAny_mono z λr'' s' hr=>?_
 obtain⟨x,h',tk',g',rfl,hC,hpost,hnl,hnn,hk⟩:=hr
 have hsz:hp.objs.size=nx:=H.size
 have hge:nb≤hp.objs.size:=E.1▸(hsz▸H.grow)
 obtain⟨x2,hC2,er,hs2,hn2⟩:=h _ x hge hC
 have lowp:∀a∈(preF++preR).map (·.1),a∈m0.l∨hb.objs.size≤a:=λa ha=>by
  obtain⟨p,hp',rfl⟩:=FX.mp ha
  exact H.low p (mem p hp')
 refine E.2 _ _ ⟨x2,h',tk',g',er,hC2,λp hp'=>hpost p (hs2 p hp'),λp hp'=>?_,hn2 hnn,km N H (λb hb'=>?_) hk⟩
 ·rcases hnl p (hs2 p hp')with z|z
  ·exact E.1▸lowp _ z
  ·exact .inr (Nat.le_trans hge z)
 ·obtain⟨p,hp',rfl⟩:=FX.mp hb'
  exact FP (mem p hp')
end
section
variable{w:World}{L:Nat}{hd:Option Value}{pf:List Env}{c:Code}{X:Type}{C:Nat→X→Prop}{r:X→Result}{post:X→ah}
theorem aZ(pre fr:ah)
  (h:∀(A:Around)(R:Result→Shared→Prop)(d:Drawn)(os:OsState)(hb:Heap)(m0:cM)(g:GB)(tk b:Nat)(outer:List Env),Rm A L hd→fP w hd A R d os hb m0→jF d os hb (b+937) m0 C r post R→Nz w A hb m0 pf outer→
   Gd (aG w A R d os hb m0 g fr) ⟨c,.base,Dq c,pre,b+937,tk⟩):aR w L hd pf c (pre++fr) C r post:=by
 intro A hb g d tk os outer Z hff fok hdis hst hpre hoff nd
 refine y_code _ _ _ _ _ _ ?_
 obtain⟨b,hbe⟩:∃b,hb.objs.size=b+937:=⟨hb.objs.size-937,by have:=aV w hb hst;omega⟩
 have z:=(h A (bj d os hb hb.objs.size ⟨(pre++fr).map (·.1),aK outer⟩ C r post) d os hb ⟨(pre++fr).map (·.1),aK outer⟩ g tk b outer Z (λg fr'=>fits w A _ d os hb _ g fr' hd Z.h) ⟨hbe,λ_ _ z=>by rw[hbe];exact z⟩ ⟨hff,fok.split.2,rfl,hdis⟩).run hb
  ⟨hbe,hst,hpre,hoff,nd,λp hp=>.inl (FP hp),λb o e _=>a6 e,hbe▸Nat.le_refl _⟩
 have z':wpOwn (model pw w) A c (Dq c) _ _ _:=z
 rw[lw]at z'
 exact z'
theorem gm{t tt:Sem Flow}(ht:t=tt)(pre fr:ah)
  (h:∀(A:Around)(R:Result→Shared→Prop)(d:Drawn)(os:OsState)(hb:Heap)(m0:cM)(g:GB)(tk b:Nat)(outer:List Env),Rm A L hd→fP w hd A R d os hb m0→jF d os hb (b+937) m0 C r post R→Nz w A hb m0 pf outer→
   Gd (aG w A R d os hb m0 g fr) ⟨c,.base,PySem.W.R.bindR tt λfl=>.pure (.done fl),pre,b+937,tk⟩):jq w L hd pf c t (pre++fr) C r post:=by
 intro A hb g d tk os outer Z hff fok hdis hst hpre hoff nd
 subst ht
 obtain⟨b,hbe⟩:∃b,hb.objs.size=b+937:=⟨hb.objs.size-937,by have:=aV w hb hst;lia⟩
 have z:=(h A (bj d os hb hb.objs.size ⟨(pre++fr).map (·.1),aK outer⟩ C r post) d os hb ⟨(pre++fr).map (·.1),aK outer⟩ g tk b outer Z (λg fr'=>fits w A _ d os hb _ g fr' hd Z.h) ⟨hbe,λ_ _ z=>by rw[hbe];exact z⟩ ⟨hff,fok.split.2,rfl,hdis⟩).run hb
  ⟨hbe,hst,hpre,hoff,nd,λp hp=>.inl (FP hp),λb o e _=>a6 e,hbe▸Nat.le_refl _⟩
 have z':wpOwn (model pw w) A c (PySem.W.R.bindR t λfl=>.pure (.done fl)) (postC pw w A (bj d os hb hb.objs.size ⟨(pre++fr).map (·.1),aK outer⟩ C r post)) (postE (bj d os hb hb.objs.size ⟨(pre++fr).map (·.1),aK outer⟩ C r post)) ⟨hb,g,d,tk,os⟩:=z
 rw[←PySem.W.R.bindR_eq]at z'
 intro Γ p hc hΓ
 have q:=z' Γ p hc hΓ
 rw[Sem.wp_bind]at q
 exact q
end
end
section
section
variable{M:Model}{A:Around}{c:Code}{E:Value→Shared→Prop}{s:Shared}{α:Type}
theorem eC{m:Sem α}{k:Value→Sem Unit}{Q:α→Shared→Prop}(h:wpOwn M A c m Q (λe s'=>wpOwn M A c (k e) (λ_ s''=>E e s'') E s') s):wpOwn M A c (m.onRaise k) Q E s:=λΓ p hc hΓ=>by
 rw[Sem.wp_onRaise]
 exact Sem.wp_mono M Γ m (λ_ _ _ h'=>h') (λe p' s' h'=>h' Γ p' hc hΓ) p s (h Γ p hc hΓ)
theorem oK{m:Sem α}{Q:Except Value α→Shared→Prop}(h:wpOwn M A c m (λa=>Q (.ok a)) (λe=>Q (.error e)) s):wpOwn M A c m.attempt Q E s:=λΓ p hc hΓ=>by
 rw[Sem.wp_attempt]
 exact h Γ p hc hΓ
theorem gf{a:α}{Q:α→Shared→Prop}(h:Q a s):wpOwn M A c (pure a) Q E s:=λ_ _ _ _=>h
theorem nk{t:Sem α}{Q:α→Shared→Prop}(h:wpAny M (A.under c) t Q E s):wpOwn M A c t Q E s:=wpOwn_of_wpAny h
theorem qU{env:Env}{body:Sem Flow}{orelse:Sem Flow}{h₀:ExceptHandler}{hs:List ExceptHandler}{Q:Flow→Shared→Prop}
  (h:wpOwn M A c body (λf s₁=>match f with|.next=>wpOwn M A c orelse Q E s₁|f=>Q f s₁)
   (λe s₁=>wpAny M (A.under c) (noteFrame e env) (λ_ s₂=>wpAny M (A.under c) (setFlight e none) (λ_ s₃=>wpAny M (A.under c) (handleBy e env (h₀::hs)) (λf s₄=>Q f s₄) E s₃) E s₂) E s₁) s):
  wpOwn M A c (tryStmt false body (h₀::hs) orelse [] env) Q E s:=by
 delta tryStmt
 refine wpOwn_bind (oK (wpOwn_mono h (λf s₁ h₁=>?_) λe s₁ h₁=>?_))
 ·cases f<;>first|exact h₁|exact gf h₁
 ·exact nk (wpAny_bind (wpAny_mono h₁ (λ_ _ h₂=>wpAny_bind h₂) λ_ _ x=>x))
end
section
variable{w:World}{hd:Option Value}{A:Around}{d:Drawn}{os:OsState}{hb hp:Heap}{m0:cM}{g:GB}{tk nx:Nat}{L L':Nat}{c:Code}{pf outer:List Env}{pre rest:ah}{X:Type}{C:Nat→X→Prop}{r:X→Result}{post:X→ah}
theorem iD{l m:ah}(h:((l++m).map (·.1)).Nodup):(l.map (·.1)).Nodup:=by
 rw[FM]at h
 exact(List.nodup_append.mp h).1
theorem ft(N:Nz w A hb m0 pf outer)(H:aI (bo w) hb m0 hp (pre++rest) nx){x:X}{h':Heap}(hpost:k8 h' (post x))(hnl:∀p∈post x,p.1∈pre.map (·.1)∨hp.objs.size≤p.1)(hnn:((post x).map (·.1)).Nodup)
  (hk:iX hp h' ⟨pre.map (·.1),aK outer⟩):aI (bo w) hb m0 h' (post x++rest) h'.objs.size:=by
 have hsz:hp.objs.size=nx:=H.size
 have ndp:=H.nd
 rw[FM]at ndp
 obtain⟨n1,n2,n3⟩:=List.nodup_append.mp ndp
 have nin:=N.notin H
 have lowp:∀a∈pre.map (·.1),a∈m0.l∨hb.objs.size≤a:=λa ha=>by
  obtain⟨p,hp',rfl⟩:=FX.mp ha
  exact H.low p (FN _ hp')
 have restk:∀p∈rest,h'.get? p.1=some p.2:=λp hp'=>(hk.1 _ _ (H.own p (FO _ hp')) λhm=>n3 _ hm _ (FP hp') rfl).1 (nin p (FO _ hp'))
 refine⟨rfl,λa o e=>(hk.1 a o (H.st a o e) λhm=>?_).1 (λhm=>N.ok.off a hm o e),λp hp'=>?_,λp hp' o e=>?_,?_,λp hp'=>?_,(km N H (λa ha=>?_) hk).1,Nat.le_trans H.grow (hsz▸hk.2)⟩
 ·obtain⟨p,hp',e'⟩:=FX.mp hm
  exact H.off p (FN _ hp') o (e'▸e)
 ·rcases F0.mp hp' with q|q
  ·exact hpost p q
  ·exact restk p q
 ·rcases F0.mp hp' with q|q
  ·rcases hnl p q with z|z
   ·obtain⟨p2,hp2,e'⟩:=FX.mp z
    exact H.off p2 (FN _ hp2) o (e'▸e)
   ·exact absurd (Heap.lt_size (H.st _ _ e)) (Nat.not_lt.mpr z)
  ·exact H.off p (FO _ q) o e
 ·rw[FM]
  refine List.nodup_append.mpr ⟨hnn,n2,λa ha b hb' e=>?_⟩
  obtain⟨p,hp',rfl⟩:=FX.mp ha
  rcases hnl p hp' with z|z
  ·exact n3 _ z b hb' e
  ·obtain⟨p2,hp2,rfl⟩:=FX.mp hb'
   exact absurd (Heap.lt_size (H.own p2 (FO _ hp2))) (Nat.not_lt.mpr (e▸z))
 ·rcases F0.mp hp' with q|q
  ·rcases hnl p q with z|z
   ·exact lowp _ z
   ·exact .inr (Nat.le_trans H.grow (hsz▸z))
  ·exact H.low p (FO _ q)
 ·obtain⟨p,hp',e'⟩:=FX.mp ha
  exact e'▸FP (FN _ hp')
inductive gG(w:World)(d:Drawn)(os:OsState)(hb:Heap)(m0:cM)(rest:ah)(nb:Nat)(C:Nat→X→Prop)(r:X→Result)(post:X→ah)(r':Result):Shared→Prop
 |mk (x:X) (h':Heap) (tk':Tok) (g':GB) (e:r'=r x) (c:C nb x) (H:aI (bo w) hb m0 h' (post x++rest) h'.objs.size):gG w d os hb m0 rest nb C r post r' ⟨h',g',d,tk',os⟩
theorem eZ(S:jq w L hd pf c t pre C r post)(Z:Rm A L hd)(N:Nz w A hb m0 pf outer)(fk:cQ w hp pf)(H:aI (bo w) hb m0 hp (pre++rest) nx):
  wpOwn (model pw w) A c t (λfl s'=>gG w d os hb m0 rest nx C r post (.ok fl) s') (λe s'=>gG w d os hb m0 rest nx C r post (.error e) s') ⟨hp,g,d,tk,os⟩:=by
 have key:∀r' s',bj d os hp hp.objs.size ⟨pre.map (·.1),aK outer⟩ C r post r' s'→gG w d os hb m0 rest nx C r post r' s':=λr' s'⟨x,h',tk',g',e2,hC,hpost,hnl,hnn,hk⟩=>
  ⟨x,h',tk',g',e2,H.size▸hC,ft N H hpost hnl hnn hk⟩
 exact wpOwn_mono (S A hp g d tk os outer Z N.fr (fk.append (N.now H)) (λa ha hm=>by
   obtain⟨p,hp',rfl⟩:=FX.mp hm
   exact N.notin H p (FN _ hp') ha) H.st (λp hp'=>H.own p (FN _ hp')) (λp hp'=>H.off p (FN _ hp')) (iD H.nd)) (λfl s' q=>key _ _ q) λe s' q=>key _ _ q
theorem eR{c':Code}{A':Around}(S:aR w L' hd pf c' pre C r post)(Z:Rm A' L' hd)(N:Nz w A hb m0 pf outer)(hA:A'.frames=some (pf++outer))(fk:cQ w hp pf)(H:aI (bo w) hb m0 hp (pre++rest) nx):
  codeAny (model pw w) A' c' (gG w d os hb m0 rest nx C r post) ⟨hp,g,d,tk,os⟩:=
 codeAny_mono (S A' hp g d tk os outer Z hA (fk.append (N.now H)) (λa ha hm=>by
   obtain⟨p,hp',rfl⟩:=FX.mp hm
   exact N.notin H p (FN _ hp') ha) H.st (λp hp'=>H.own p (FN _ hp')) (λp hp'=>H.off p (FN _ hp')) (iD H.nd)) λr' s'⟨x,h',tk',g',e2,hC,hpost,hnl,hnn,hk⟩=>
  ⟨x,h',tk',g',e2,H.size▸hC,ft N H hpost hnl hnn hk⟩
theorem hF{A':Around}{env:Env}{e a:Addr}{cls a0 a2 a3 a4 a5:Value}{fo:Obj}{E:Value→Shared→Prop}{Q:Unit→Shared→Prop}(N:Nz w A hb m0 pf outer)(hA:A'.frames=some (env::outer))(hf:env.frame=some a)(hn:cS env=true)(nf:dW fo=true)
  (H:aI (bo w) hb m0 hp ([(e,fM cls a0 .none a2 a3 a4 a5),(a,fo)]++rest) nx)
  (h:∀h' T cs σ,aI (bo w) hb m0 h' ([(e,fM cls a0 (.ref (T+937)) a2 a3 a4 a5),(a,Obj.sl fo σ),(T+937,iW .none a cs)]++rest) h'.objs.size→Q () ⟨h',g,d,tk,os⟩):
  wpAny (model pw w) A' (noteFrame (.ref e) env) (λ_ s2=>wpAny (model pw w) A' (setFlight (.ref e) none) Q E s2) E ⟨hp,g,d,tk,os⟩:=by
 have fok:cQ w hp (env::outer):=(bx rfl H (FN _ (.tail _ (.head _))) hf hn nf).append (N.now H)
 have fad:aK (env::outer)=a::aK outer:=by
  unfold aK
  rw[List.filterMap_cons,hf]
 have nd:=iD H.nd
 have hea:e≠a:=by
  intro q
  simp[q]at nd
 refine Bz (w:=w) hA fok hf (H.own _ (FN _ (.head _))) H.st λh' T cs he hT lT nT hk=>?_
 have ha:=H.own _ (FN _ (.tail _ (.head _)))
 obtain⟨σ,hσ⟩:=(hk.1 a fo ha (by simpa using hea.symm)).2
 have la:a<hp.objs.size:=Heap.lt_size ha
 refine h h' T cs σ (ft (x:=()) (post:=λ_=>[(e,fM cls a0 (.ref (T+937)) a2 a3 a4 a5),(a,Obj.sl fo σ),(T+937,iW .none a cs)]) N H (λp hp'=>?_) (λp hp'=>?_) ?_ ⟨λb o hb' hm=>?_,hk.2⟩)
 ·simp only[FY,FU,or_false]at hp'
  rcases hp' with rfl|rfl|rfl
  ·exact he
  ·exact hσ
  ·exact hT
 ·simp only[FY,FU,or_false]at hp'
  rcases hp' with rfl|rfl|rfl
  ·exact .inl (.head _)
  ·exact .inl (.tail _ (.head _))
  ·exact .inr lT
 ·simp only[FR,List.map_nil,List.nodup_cons,FY,FU,or_false,not_or,not_false_eq_true,List.nodup_nil,and_true]
  exact⟨⟨hea,λq=>nT q.symm⟩,λq=>absurd la (Nat.not_lt.mpr (q▸lT))⟩
 ·simp only[FR,List.map_nil,FY,FU,or_false,not_or]at hm
  obtain⟨k1,k2⟩:=hk.1 b o hb' (by simpa using hm.1)
  exact⟨λq=>k1 (by rw[fad];exactλz=>(FY.mp z).elim hm.2 q),k2⟩
theorem sj{A':Around}{env:Env}{e a T1 L1:Addr}{cls a0 a2 a3 a4 a5 hd1:Value}{cs1:List Value}{fo:Obj}{E:Value→Shared→Prop}{Q:Unit→Shared→Prop}(N:Nz w A hb m0 pf outer)(hA:A'.frames=some (env::outer))(hf:env.frame=some a)(hn:cS env=true)(nf:dW fo=true)
  (H:aI (bo w) hb m0 hp ([(e,fM cls a0 (.ref T1) a2 a3 a4 a5),(T1,iW hd1 L1 cs1),(a,fo)]++rest) nx)
  (h:∀h' T cs σ,aI (bo w) hb m0 h' ([(e,fM cls a0 (.ref (T+937)) a2 a3 a4 a5),(a,Obj.sl fo σ),(T+937,iW (.ref T1) a cs)]++rest) h'.objs.size→Q () ⟨h',g,d,tk,os⟩):
  wpAny (model pw w) A' (noteFrame (.ref e) env) (λ_ s2=>wpAny (model pw w) A' (setFlight (.ref e) none) Q E s2) E ⟨hp,g,d,tk,os⟩:=by
 have fok:cQ w hp (env::outer):=(bx rfl H (FN _ (.tail _ (.tail _ (.head _)))) hf hn nf).append (N.now H)
 have fad:aK (env::outer)=a::aK outer:=by
  unfold aK
  rw[List.filterMap_cons,hf]
 have nd:=iD H.nd
 simp only[FR,List.map_nil,List.nodup_cons,FY,FU,or_false,not_or,not_false_eq_true,List.nodup_nil,and_true]at nd
 obtain⟨⟨n1,hea⟩,n3⟩:=nd
 refine BA (w:=w) hA fok hf (H.own _ (FN _ (.head _))) (H.own _ (FN _ (.tail _ (.head _)))) (λq=>n1 q.symm) H.st λh' T cs he hT lT nT hk=>?_
 have ha:=H.own _ (FN _ (.tail _ (.tail _ (.head _))))
 obtain⟨σ,hσ⟩:=(hk.1 a fo ha (by simp only[FY,FU,or_false,not_or];exact⟨λq=>hea q.symm,λq=>n3 q.symm⟩)).2
 have la:a<hp.objs.size:=Heap.lt_size ha
 refine h h' T cs σ (ft (x:=()) (post:=λ_=>[(e,fM cls a0 (.ref (T+937)) a2 a3 a4 a5),(a,Obj.sl fo σ),(T+937,iW (.ref T1) a cs)]) N H (λp hp'=>?_) (λp hp'=>?_) ?_ ⟨λb o hb' hm=>?_,hk.2⟩)
 ·simp only[FY,FU,or_false]at hp'
  rcases hp' with rfl|rfl|rfl
  ·exact he
  ·exact hσ
  ·exact hT
 ·simp only[FY,FU,or_false]at hp'
  rcases hp' with rfl|rfl|rfl
  ·exact .inl (.head _)
  ·exact .inl (.tail _ (.tail _ (.head _)))
  ·exact .inr lT
 ·simp only[FR,List.map_nil,List.nodup_cons,FY,FU,or_false,not_or,not_false_eq_true,List.nodup_nil,and_true]
  exact⟨⟨hea,λq=>nT q.symm⟩,λq=>absurd la (Nat.not_lt.mpr (q▸lT))⟩
 ·simp only[FR,List.map_nil,FY,FU,or_false,not_or]at hm
  obtain⟨k1,k2⟩:=hk.1 b o hb' (by simp only[FY,FU,or_false,not_or];exact⟨hm.1,hm.2.1⟩)
  exact⟨λq=>k1 (by rw[fad];exactλz=>(FY.mp z).elim hm.2.2 q),k2⟩
end
end
section
noncomputable def kT(c:Code)(p:Pos)(below:List (Code×Pos)):Sem Fin→Sem Fin
 |.stack k=>k ((c,p)::below)
 |t=>t
noncomputable def jR:Sem Fin→Bool
 |.stack _=>true
 |_=>false
theorem vw{t:Sem Fin}:jR t=true→∃k,t=.stack k:=by
 apply@Sem.casesOn Fin (λt=>jR t=true→∃k,t=.stack k) t<;>intros
 case stack=>exact⟨_,rfl⟩
 all_goals (rename_i h;exact Bool.noConfusion h)
noncomputable def xD(c:Code)(t:Sem Fin):Sem Fin:=kT c default [] t
section
variable{w:World}{hd:Option Value}{A:Around}{R:Result→Shared→Prop}{d:Drawn}{os:OsState}{hb:Heap}{m0:cM}{g:Array GenState}{fr:ah}{s:St}
theorem ks(F:fP w hd A R d os hb m0)(n pl:Nat)(ok:((go (ag w hd) n pl s).Y&&jR (go (ag w hd) n pl s).S.T)=true)(ab:(go (ag w hd) n pl s).A=(go (ag w hd) n pl s).B)
  (hs:∀p below,kT (go (ag w hd) n pl s).S.C p below (go (ag w hd) n pl s).S.T=xD (go (ag w hd) n pl s).S.C (go (ag w hd) n pl s).S.T)
  (h:Gd (aG w A R d os hb m0 g fr) ((go (ag w hd) n pl s).S.setT (xD (go (ag w hd) n pl s).S.C (go (ag w hd) n pl s).S.T))):Gd (aG w A R d os hb m0 g fr) s:=by
 rw[Bool.and_eq_true]at ok
 refine eI (F g fr) n pl ok.1 ab ?_
 obtain⟨_,ok⟩:=ok
 revert h hs ok
 generalize (go (ag w hd) n pl s).S=s'
 intro hs h ok
 obtain⟨c,κ,t,oo,nx,tk⟩:=s'
 have ok:jR t=true:=ok
 have hs:∀p below,kT c p below t=xD c t:=hs
 refine⟨λhp H=>?_⟩
 have z:=h.run hp H
 obtain⟨k,rfl⟩:=vw ok
 show wpOwn _ _ _ (Sem.stack k) _ _ _
 apply y_stack
 intro p below _
 have e:k ((c,p)::below)=xD c (.stack k):=hs p below
 rw[e]
 exact z
end
end
section
section
variable{w:World}{hd:Option Value}{A:Around}{R:Result→Shared→Prop}{d:Drawn}{os:OsState}{hb:Heap}{m0:cM}{g:Array GenState}{fr:ah}{s:St}{L:Nat}
end
end
section
noncomputable def gC:Sem Value→Sem Value
 |.stack k=>k []
 |t=>t
theorem rZ(what:String)(vs:List Value)(rest:Unit→Sem Value):((cRoom what).bind rest).keep vs=(cRoom what).bind λ_=>(rest ()).keep vs:=by
 show Sem.stack _=Sem.stack _
 congr 1
 funext l
 show Sem.keep vs (Sem.bind (if(l.map (·.1.cUnits)).sum≥cLine then unsupported _ else pure ()) rest)=Sem.bind (if(l.map (·.1.cUnits)).sum≥cLine then unsupported _ else pure ()) _
 by_cases h:(l.map (·.1.cUnits)).sum≥cLine
 ·rw[if_pos h];rfl
 ·rw[if_neg h];rfl
theorem uE(what:String)(vs:List Value)(rest:Unit→Sem Value):gC (((cRoom what).bind rest).keep vs)=(rest ()).keep vs:=by
 kernel_rfl
noncomputable def kX:CmpOp→Value→Value→Sem Value:=PySem.W.Fast.tw9423741818375054981
theorem vJ:richCompare=kX:=PySem.W.Fast.te9423741818375054981
theorem l0(op:CmpOp)(a b:Addr):kX op (.ref a) (.ref b)=(cRoom "comparison").bind λ_=>gC (kX op (.ref a) (.ref b)):=by
 rw[←vJ]
 obtain⟨rest,h⟩:∃rest,richCompare op (.ref a) (.ref b)=((cRoom "comparison").bind rest).keep [.ref a,.ref b]:=⟨_,rfl⟩
 rw[h,uE]
 exact rZ _ _ _
structure mu(ctx:Sem Value→Sem Fin):Prop where
 s:∀k,ctx (.stack k)=.stack λl=>ctx (k l)
 u:∀m,ctx (.unsupported m)=.unsupported m
theorem sC{ctx:Sem Value→Sem Fin}(h:mu ctx)(what:String)(t:Sem Value):ctx ((cRoom what).bind λ_=>t)=(cRoom what).bind λ_=>ctx t:=by
 show ctx (Sem.stack _)=Sem.stack _
 rw[h.s]
 congr 1
 funext l
 show ctx (Sem.bind (if(l.map (·.1.cUnits)).sum≥cLine then unsupported _ else pure ()) _)=Sem.bind (if(l.map (·.1.cUnits)).sum≥cLine then unsupported _ else pure ()) _
 by_cases hc:(l.map (·.1.cUnits)).sum≥cLine
 ·rw[if_pos hc];exact h.u _
 ·rw[if_neg hc];rfl
section
variable{w:World}{hd:Option Value}{A:Around}{R:Result→Shared→Prop}{d:Drawn}{os:OsState}{hb:Heap}{m0:cM}{g:Array GenState}{fr:ah}{s:St}{L:Nat}
theorem u9{ctx:Sem Value→Sem Fin}(T:mu ctx)(op:CmpOp)(a b:Addr)(hs:s.T=ctx (kX op (.ref a) (.ref b)))(hd':Nat.ble (sP s.K+un s.C) 100=true)(hk:A.units≤9000)
  (h:Gd (aG w A R d os hb m0 g fr) (s.setT (ctx (gC (kX op (.ref a) (.ref b)))))):Gd (aG w A R d os hb m0 g fr) s:=
 nA (cRoom "comparison") _ (by rw[hs,l0,sC T,←l0]) (λhp H Q E q=>by
  refine wpAny_cRoom ?_ q
  have:=gn (bF w A R d os) s.K
  show(aroundOf (bF w A R d os) true s.K).units+s.C.cUnits<cLine
  have e:s.C.cUnits=un s.C:=by rw[gO]
  have e2:(bF w A R d os).A₀.units=A.units:=rfl
  have e3:=Nat.le_of_ble_eq_true hd'
  have e4:cLine=9900:=rfl
  lia) h
theorem kc(F:fP w hd A R d os hb m0)(Z:Rm A L hd)(n pl:Nat){ctx:Sem Value→Sem Fin}(T:mu ctx)(op:CmpOp)(a b:Addr)(h:let sS:=((go (ag w hd) n pl s).S.setT (ctx (gC (kX op (.ref a) (.ref b)))));Gd (aG w A R d os hb m0 g fr) sS)(ok:((go (ag w hd) n pl s).Y&&Nat.ble (sP (go (ag w hd) n pl s).S.K+un (go (ag w hd) n pl s).S.C) 100)=true:=by kernel_rfl)(ab:(go (ag w hd) n pl s).A=(go (ag w hd) n pl s).B:=by kernel_rfl)(hs:(go (ag w hd) n pl s).S.T=ctx (kX op (.ref a) (.ref b)):=by kernel_rfl):Gd (aG w A R d os hb m0 g fr) s:=by
 rw[Bool.and_eq_true]at ok
 exact eI (F g fr) n pl ok.1 ab (u9 T op a b hs ok.2 (Nat.le_trans Z.u (Nat.sub_le _ _)) h)
end
noncomputable abbrev Fm(env:Env):Value→Sem Unit:=λx=>PySem.W.R.bindR (PySem.W.Fast.tw17872113653443481271 x env) λ_=>PySem.W.Fast.tw1623429502029203251 x
noncomputable abbrev nY(l r:Value)(x:Sem Value):Sem Bool:=PySem.W.R.bindR (PySem.W.Fast.tw8004119333741010377 [l,r] x) λc=>PySem.W.Fast.tw17359229931016689406 [c] (PySem.W.Fast.tw15245631507167962100 c)
noncomputable abbrev j4(rest:List Stmt)(env:Env)(x:Sem Flow):Sem Flow:=PySem.W.R.bindR x λf=>match f with
 |.next=>PySem.W.Fast.tw12563942051412417395 rest env
 |f=>pure f
noncomputable abbrev E5(b o:List Stmt)(env:Env)(x:Sem Bool):Sem Flow:=PySem.W.R.bindR x λb'=>if b'=true then PySem.W.Fast.tw12563942051412417395 b env else PySem.W.Fast.tw12563942051412417395 o env
noncomputable abbrev Cl(rest:List Expr)(pos:Pos)(env:Env)(x:Sem Bool):Sem Bool:=PySem.W.R.bindR x λb'=>match BoolOp.Or,b' with
 |.And,false=>pure false
 |.Or,true=>pure true
 |_,_=>PySem.W.Fast.tw15418851999007992765 (.BoolOp .Or rest pos) env (.pure .none)
noncomputable abbrev ty(c:Code)(env:Env)(x:Sem Flow):Sem Fin:=PySem.W.R.onRaiseR (PySem.W.R.bindR x λf=>match f with
 |.next=>PySem.W.Fast.tw12377390311714414960 c
 |.cont=>PySem.W.Fast.tw12377390311714414960 c
 |.brk=>pure (.done .next)
 |.ret v=>pure (.done (.ret v))) (Fm env)
noncomputable def nj:Expr→Nat→List Expr
 |.BoolOp _ vs _,n=>vs.drop n
 |_,_=>[]
noncomputable def jc:Stmt→Expr
 |.If t _ _ _=>t
 |_=>.Name ⟨#[]⟩ default
end
theorem dZ{w:World}{L:Nat}{hd:Option Value}{T:String}{name:Str}{id:String}{B:Builtin}{self:Value}{rest:List Value}{m:Made}(V:Tok→Value)
  (slot:Slot T name id) (hT:∀s:Shared,s.TypeIs self T) (entry:entryFor table id=some B) (args:argsOk id ⟨self::rest,[]⟩) (g:Gives (B ⟨self::rest,[]⟩) m)
  (h:∀(Q:Value→Shared→Prop)(s:Shared),(∀t k,Q (V t) {s with toks:=k})→m.post Q s):Spec w L hd (.call (.builtin id) ⟨self::rest,[]⟩) [] (X:=Tok) (λ_ _=>True) (λt=>.ok (.ret (V t))) (λ_=>[]):=λA hp g' d tk os Z hst hpre hoff nd=>
 codeAny_call_builtin slot.plain entry (slot.check _ _ _ _ _ _ _ _ (hT _) args (g pw w A _ _ (h _ _ λt k=>⟨t,hp,k,g',rfl,trivial,hpre,(λp h=>absurd h FU),nd,λb o e _=>a6 e,Nat.le_refl _⟩)))
theorem kV{w:World}{L:Nat}{hd:Option Value}{x y:Str}{t u:Tok}{b:Bool}(hb:(x.cps.toList==y.cps.toList)=b):Spec w L hd (.call (.builtin "str.__eq__") ⟨[.str x t,.str y u],[]⟩) [] (X:=Tok) (λ_ _=>True) (λ_=>.ok (.ret (.bool b))) (λ_=>[]):=
 dZ (λ_=>.bool b) F.slot_str_eq (λs=>typeIs_str s x t) F.entry_str_eq (F.args_str_eq_2 _ _) (gives_str_eq x y t u) λQ s h=>by
  show Q (.bool _) s
  rw[hb]
  exact h 0 s.toks
theorem vz{w:World}{L:Nat}{hd:Option Value}{x y:Str}{t u:Tok}{b:Bool}(hb:(!(Builtin.Str.occurrences x y 0 x.length 1).isEmpty)=b):Spec w L hd (.call (.builtin "str.__contains__") ⟨[.str x t,.str y u],[]⟩) [] (X:=Tok) (λ_ _=>True) (λ_=>.ok (.ret (.bool b))) (λ_=>[]):=
 dZ (λ_=>.bool b) F.slot_str_contains (λs=>typeIs_str s x t) F.entry_str_contains (F.args_str_contains_2 _ _) (gives_str_contains x y t u) λQ s h=>by
  show Q (.bool _) s
  rw[hb]
  exact h 0 s.toks
theorem sK{w:World}{L:Nat}{hd:Option Value}{x y:Str}{t u:Tok}(hl:x.length+y.length≤sizeLine):Spec w L hd (.call (.builtin "str.__add__") ⟨[.str x t,.str y u],[]⟩) [] (X:=Tok) (λ_ _=>True) (λk=>.ok (.ret (.str (x++y) k))) (λ_=>[]):=
 dZ (λk=>.str (x++y) k) F.slot_str_add (λs=>typeIs_str s x t) F.entry_str_add (F.args_str_add_2 _ _) (gives_str_add x y t u) λQ s h=>by
  by_cases h1:x.length=0
  ·rw[if_pos (by simpa using h1)]
   have:x++y=y:=by
    obtain⟨⟨l⟩⟩:=x
    have:l=[]:=List.length_eq_zero_iff.mp h1
    subst this
    show(⟨#[]++y.cps⟩:Str)=y
    simp
   have z:=h u s.toks
   rw[this]at z
   exact z
  ·rw[if_neg (by simpa using h1)]
   by_cases h2:y.length=0
   ·rw[if_pos (by simpa using h2)]
    have:x++y=x:=by
     obtain⟨⟨l⟩⟩:=y
     have:l=[]:=List.length_eq_zero_iff.mp h2
     subst this
     show(⟨x.cps++#[]⟩:Str)=x
     simp
    have z:=h t s.toks
    rw[this]at z
    exact z
   ·rw[if_neg (by simpa using h2)]
    refine⟨?_,h _ _⟩
    show(x.cps++y.cps).size≤_
    rw[Array.size_append]
    exact hl
theorem iR{w:World}{L:Nat}{hd:Option Value}{x:Nat}{vs:List Value}{ys:List Str}{S:Str}{u:Tok}{b:Bool}(hv:StrsAre vs ys)(hb:ys.any (·==S)=b):Spec w L hd (.call (.builtin "tuple.__contains__") ⟨[.ref (x+937),.str S u],[]⟩) [(x+937,aW vs)] (X:=Tok) (λ_ _=>True) (λ_=>.ok (.ret (.bool b))) (λ_=>[(x+937,aW vs)]):=λA hp g d tk os Z hst hpre hoff nd=>by
 have h:=hpre _ (.head _)
 have h':=h
 rw[iP]at h'
 refine codeAny_call_builtin F.slot_tuple_contains.plain F.entry_tuple_contains (F.slot_tuple_contains.check _ _ _ _ _ _ _ _ ⟨_,h',rfl⟩ (F.args_tuple_contains_2 _ _) ?_)
 refine tuple_contains_strs (items:=⟨vs⟩) ⟨_,h',rfl,0,rfl⟩ hv ?_
 rw[hb]
 exact⟨0,hp,tk,g,rfl,trivial,hpre,λp h=>.inl (FP h),nd,λb o e _=>a6 e,Nat.le_refl _⟩
noncomputable def nm:Nat→Str
 |0=>U3|1=>u [98,32,99]|2=>U9|3=>u [100,34]|4=>u [35,101]|_=>u [102,92]
theorem mX(w:World)(i:Nat)(hi:i<6)(t:Tok):Spec w 1 none (.call (.ref 900) ⟨[.int (i:Nat) t],[]⟩) [] (X:=Tok) (λ_ _=>True) (λx=>.ok (.ret (.str (nm i) x))) (λ_=>[]):=by
 refine ak λA R d os hb m0 g tk b Z F E=>?_
 match i,hi with
 |0,_|1,_|2,_|3,_|4,_|5,_ =>
  refine ex F Z 7 266240 ?_
  intro sS
  exact fs F E 24 2181570689 [] (λr _ _=>iO (B6 r)) (by kernel_rfl) (by kernel_rfl) (by kernel_rfl) (by kernel_rfl) trivial
noncomputable def qn:Nat→Str
 |0=>U3|1=>u [39,98,32,99,39]|2=>u [39,105,116,39,34,39,34,39,115,39]|3=>u [39,100,34,39]|4=>u [39,35,101,39]|_=>u [39,102,92,39]

noncomputable def sF(S:Str)(p:Nat):Nat:=S.cps.toList.getD p 0
theorem sG{S:Str}{p:Nat}(h:p<S.length)(t t1 t2:Tok):∃m:Made,sliceMade S t (some ((p:Int),t1)) (some (((p+1:Nat):Int),t2)) none=m∧
  ∀(Q:Value→Shared→Prop)(s:Shared),(∀tok k,Q (.str (u [sF S p]) tok) {s with toks:=k})→m.post Q s:=by
 refine⟨_,rfl,λQ s hq=>?_⟩
 have hi:slicePicked S (some ((p:Int),t1)) (some (((p+1:Nat):Int),t2)) none=[p]:=by
  show Builtin.Str.strSliceIndices (some (p:Int)) (some ((p+1:Nat):Int)) 1 S.length=[p]
  rw[StrLaws.strSliceIndices_plain (Nat.le_succ p) h]
  simp
 have hg:S.cps[p]?=some (sF S p):=by
  have:p<S.cps.size:=h
  unfold sF
  rw[Array.getElem?_eq_getElem this,List.getD_eq_getElem?_getD,List.getElem?_eq_getElem (by simpa using this)]
  simp
 unfold sliceMade
 rw[hi]
 by_cases hc:(((none:Option (Int×Tok)).map (·.1)).getD 1==1&&([p]:List Nat).length==S.length)=true
 ·rw[if_pos hc]
  have hl:S.length=1:=by
   simp at hc
   exact hc.symm
  have hp0:p=0:=by lia
  subst hp0
  have:S=u [sF S 0]:=by
   obtain⟨⟨l⟩⟩:=S
   match l,hl with
   |[a],_=>rfl
  show Q (.str S t) s
  rw[this]
  exact hq t s.toks
 ·rw[if_neg hc]
  simp only[List.filterMap_cons,hg,List.filterMap_nil]
  refine⟨?_,hq _ _⟩
  show 1≤sizeLine
  decide
noncomputable def BB:List DictEntry→Nat→Value
 |[],_=>.none
 |e::_,0=>e.val
 |_::l,i+1=>BB l i
noncomputable def ph(os:ah)(j i:Nat):Value:=match gM os j with
 |some p=>match p.2.data with
  |.dict es _=>BB es.toList i
  |_=>.none
 |none=>.none
noncomputable def yd(os:ah)(j i:Nat):Value:=match gM os j with
 |some p=>match p.2.data with
  |.fields vs=>vs.toList.getD i .none
  |_=>.none
 |none=>.none
theorem oi{B:Around}{S:Str}{t t1 t2:Tok}{a:Addr}{p:Nat}(h:p<S.length){Q:Value→Shared→Prop}{E:Value→Shared→Prop}{w:World}{s:Shared}
  (hs:s.heap.IsSlice a (some ((p:Int),t1)) (some (((p+1:Nat):Int),t2)) none) (hq:∀k₁ k₂,Q (.str (u [sF S p]) k₁) {s with toks:=k₂}):
  wpAny (model pw w) B (PySem.call (.builtin "str.__getitem__") [.str S t,.ref a]) Q E s:=by
 obtain⟨m,e,hm⟩:=sG h t t1 t2
 exact call_meets F.slot_str_getitem (typeIs_str s S t) F.entry_str_getitem (F.args_str_getitem_2 _ _) (meets_str_getitem_slice S t a _ _ none rfl) ⟨hs,by rw[e];exact hm _ _ hq⟩
theorem ki{kt:Addr→Option Obj}{hb hp:Heap}{m0:cM}{oo fr:ah}{nx:Nat}(H:aI kt hb m0 hp (oo++fr) nx)(j:Nat){B:Around}{S:Str}{t t1:Tok}{a:Addr}{p n:Nat}(h:p<S.length)(hn:n=p+1){Q:Value→Shared→Prop}{E:Value→Shared→Prop}{w:World}{g:GB}{d:Drawn}{k:Nat}{os:OsState}
  (e:pN oo j=some (a,.type "slice",.fields #[.int (p:Int) t1,.int (n:Int) (iO (yd oo j 1)),.none])) (hq:∀k₁ k₂,Q (.str (u [sF S p]) k₁) ⟨hp,g,d,k₂,os⟩):
  wpAny (model pw w) B (PySem.call (.builtin "str.__getitem__") [.str S t,.ref a]) Q E ⟨hp,g,d,k,os⟩:=
 by
 subst hn
 exact oi h (t1:=t1) (t2:=iO (yd oo j 1)) (H.look j e) hq
theorem om(w:World)(x1 x2 k1 k2 k3 t1 t2 t3 t4:Nat)(S:Str)(p ep:Nat)(h:p+1<S.length)(hl:S.length≤1048576):
  Spec w 1 none (.call (.ref 670) ⟨[.ref (x1+937),.int 1 t4],[]⟩) [(x1+937,ap 724 (x2+937)),(x2+937,tW w.params k1 k2 k3 t1 t2 t3 S p ep)]
   (X:=Tok×Tok) (λ_ _=>True) (λx=>.ok (.ret (.str (u [sF S p]) x.1))) (λx=>[(x1+937,ap 724 (x2+937)),(x2+937,tW w.params k1 k2 k3 t1 t2 x.2 S (p+1:Nat) ep)]):=by
 refine ak λA R d os hb m0 g tk b Z F E=>?_
 refine ex F Z 12 209430773760 ?_
 intro sS
 refine ex F Z 26 73201361008734211 ?_
 intro sS
 refine ex F Z 114 0x1450000020400000010000000000010000000000010c30c4fc4fc4104100000004000 ?_
 intro sS
 refine px F 100 0x20010400000000000400000000000430000c30800410000000000010000000000010c2001040000000000040000000000045 (.builtin "len") [.str S t2] (λk=>.int S.length k) (λB hp' H Q E k hq=>PySem.P.len_str (by lia) (hq _ _)) (by kernel_rfl) (by kernel_rfl) (by kernel_rfl) λka kb=>?_
 refine sx F 17 1057763523 (by kernel_rfl) (by kernel_rfl) (aL (decide ((p:Int)≥(S.length:Int)))) (aL false) (by kernel_rfl) (by rw[decide_eq_false (by lia)]) ?_
 refine sx F 25 67696869315 (by kernel_rfl) (by kernel_rfl) (aL (decide ((p:Int)+1<(S.length:Int)))) (aL true) (by kernel_rfl) (by rw[decide_eq_true (by lia)]) ?_
 refine px F 89 0xc30800410000000000010000000000010c20820010000000000010010010000000000010c30c30c3 (.builtin "str.__getitem__") [.str S t2,.ref (b+937+3)] (λk=>.str (u [sF S p]) k) (λB hp' H Q E k hq=>ki (t1:=t3) (n:=p+1) H 5 (by lia) rfl (by kernel_rfl) hq) (by kernel_rfl) (by kernel_rfl) (by kernel_rfl) λkc kd=>?_
 exact fs F E 0 0 [0,1] (λ_ o _=>(kc,iO (ph o 1 2))) (by kernel_rfl) (by kernel_rfl) (by kernel_rfl) (by kernel_rfl) trivial
theorem mN(w:World)(x1 x2 k1 k2 k3 t1 t2 t3 t4:Nat)(S:Str)(p ep:Nat)(h:p+1=S.length)(hl:S.length≤1048576):
  Spec w 1 none (.call (.ref 670) ⟨[.ref (x1+937),.int 1 t4],[]⟩) [(x1+937,ap 724 (x2+937)),(x2+937,tW w.params k1 k2 k3 t1 t2 t3 S p ep)]
   (X:=Tok×Tok) (λ_ _=>True) (λx=>.ok (.ret (.str (u [sF S p]) x.1))) (λx=>[(x1+937,ap 724 (x2+937)),(x2+937,tW w.params k1 k2 k3 t1 t2 x.2 S S.length ep)]):=by
 refine ak λA R d os hb m0 g tk b Z F E=>?_
 refine ex F Z 12 209430773760 ?_
 intro sS
 refine ex F Z 26 73201361008734211 ?_
 intro sS
 refine ex F Z 114 0x1450000020400000010000000000010000000000010c30c4fc4fc4104100000004000 ?_
 intro sS
 refine px F 100 0x20010400000000000400000000000430000c30800410000000000010000000000010c2001040000000000040000000000045 (.builtin "len") [.str S t2] (λk=>.int S.length k) (λB hp' H Q E k hq=>PySem.P.len_str (by lia) (hq _ _)) (by kernel_rfl) (by kernel_rfl) (by kernel_rfl) λka kb=>?_
 refine sx F 17 1057763523 (by kernel_rfl) (by kernel_rfl) (aL (decide ((p:Int)≥(S.length:Int)))) (aL false) (by kernel_rfl) (by rw[decide_eq_false (by lia)]) ?_
 refine sx F 25 67696869315 (by kernel_rfl) (by kernel_rfl) (aL (decide ((p:Int)+1<(S.length:Int)))) (aL false) (by kernel_rfl) (by rw[decide_eq_false (by lia)]) ?_
 refine px F 72 0xc30800410000000000010000000000010c20820010000000000010010010000000000010c3 (.builtin "str.__getitem__") [.str S t2,.ref (b+937+3)] (λk=>.str (u [sF S p]) k) (λB hp' H Q E k hq=>ki (t1:=t3) (n:=S.length) H 5 (by lia) h.symm (by kernel_rfl) hq) (by kernel_rfl) (by kernel_rfl) (by kernel_rfl) λkc kd=>?_
 exact fs F E 0 0 [0,1] (λ_ o _=>(kc,iO (ph o 1 2))) (by kernel_rfl) (by kernel_rfl) (by kernel_rfl) (by kernel_rfl) trivial
theorem jr(w:World)(x1 x2 k1 k2 k3 t1 t2 t3 t4:Nat)(S:Str)(p ep:Nat)(h:p=S.length)(hl:S.length≤1048576):
  Spec w 1 none (.call (.ref 670) ⟨[.ref (x1+937),.int 1 t4],[]⟩) [(x1+937,ap 724 (x2+937)),(x2+937,tW w.params k1 k2 k3 t1 t2 t3 S p ep)]
   (X:=Tok×Tok) (λ_ _=>True) (λx=>.ok (.ret (.str (u []) x.1))) (λx=>[(x1+937,ap 724 (x2+937)),(x2+937,tW w.params k1 k2 k3 t1 t2 x.2 S p ep)]):=by
 refine ak λA R d os hb m0 g tk b Z F E=>?_
 refine ex F Z 12 209430773760 ?_
 intro sS
 refine ex F Z 26 73201361008734211 ?_
 intro sS
 refine ex F Z 114 0x1450000020400000010000000000010000000000010c30c4fc4fc4104100000004000 ?_
 intro sS
 refine px F 100 0x20010400000000000400000000000430000c30800410000000000010000000000010c2001040000000000040000000000045 (.builtin "len") [.str S t2] (λk=>.int S.length k) (λB hp' H Q E k hq=>PySem.P.len_str (by lia) (hq _ _)) (by kernel_rfl) (by kernel_rfl) (by kernel_rfl) λka kb=>?_
 refine sx F 17 1057763523 (by kernel_rfl) (by kernel_rfl) (aL (decide ((p:Int)≥(S.length:Int)))) (aL true) (by kernel_rfl) (by rw[decide_eq_true (by lia)]) ?_
 exact fs F E 3 0 [0,1] (λr _ _=>(iO (B6 r),t3)) (by kernel_rfl) (by kernel_rfl) (by kernel_rfl) (by kernel_rfl) trivial
noncomputable def FI:Str:=(u [97,98,99,100,102,101,103,104,105,106,107,108,109,110,111,112,113,114,115,116,117,118,119,120,121,122,65,66,67,68,69,70,71,72,73,74,75,76,77,78,79,80,81,82,83,84,85,86,87,88,89,90,48,49,50,51,52,53,54,55,56,57,95,223,224,225,226,227,228,229,230,231,232,233,234,235,236,237,238,239,240,241,242,243,244,245,246,248,249,250,251,252,253,254,255,192,193,194,195,196,197,198,199,200,201,202,203,204,205,206,207,208,209,210,211,212,213,214,216,217,218,219,220,221,222])
noncomputable abbrev E7:Obj:=⟨.type "collections.deque",none,.fields ⟨[.none,.int 0 0]⟩,⟨[]⟩⟩
noncomputable abbrev zf(P:Params)(κ ν:Nat→Nat)(y1 d1 d2:Nat)(stv tokv:Value)(ep:Nat):Obj:=ae [de P (u [105,110,115,116,114,101,97,109]) (κ 0) (.ref (y1+937)),de P (u [105,110,102,105,108,101]) (κ 1) (.none),de P (u [112,111,115,105,120]) (κ 2) (.bool true),de P (u [101,111,102]) (κ 3) (.none),de P (u [99,111,109,109,101,110,116,101,114,115]) (κ 4) (.str (u []) (ν 4)),de P (u [119,111,114,100,99,104,97,114,115]) (κ 5) (.str FI (ν 5)),de P (u [119,104,105,116,101,115,112,97,99,101]) (κ 6) (.str (u [32,9,13,10]) (ν 6)),de P (u [119,104,105,116,101,115,112,97,99,101,95,115,112,108,105,116]) (κ 7) (.bool true),de P (u [113,117,111,116,101,115]) (κ 8) (.str (u [39,34]) (ν 8)),de P (u [101,115,99,97,112,101]) (κ 9) (.str (u [92]) (ν 9)),de P (u [101,115,99,97,112,101,100,113,117,111,116,101,115]) (κ 10) (.str (u [34]) (ν 10)),de P (u [115,116,97,116,101]) (κ 11) (stv),de P (u [112,117,115,104,98,97,99,107]) (κ 12) (.ref (d1+937)),de P (u [108,105,110,101,110,111]) (κ 13) (.int 1 (ν 13)),de P (u [100,101,98,117,103]) (κ 14) (.int 0 (ν 14)),de P (u [116,111,107,101,110]) (κ 15) (tokv),de P (u [102,105,108,101,115,116,97,99,107]) (κ 16) (.ref (d2+937)),de P (u [115,111,117,114,99,101]) (κ 17) (.none),de P (u [95,112,117,110,99,116,117,97,116,105,111,110,95,99,104,97,114,115]) (κ 18) (.str (u []) (ν 18))] ep
noncomputable abbrev Ef:Stmt:=br (aE (az (aj 30) 6)) 2
noncomputable abbrev BV(P:Params)(lo:Nat):Env:=bH 827 (BE P) lo
noncomputable abbrev zF(P:Params):Option (Tok×Value)→List DictEntry
 |none=>[]
 |some (q,z)=>[de P (u [110,101,120,116,99,104,97,114]) q z]
noncomputable abbrev Ee(P:Params)(q1 q2 q3 t0 x1:Nat)(qd:Bool)(o:Option (Tok×Value))(ee:Nat):Obj:=e7 ([de P U2 q1 (.ref (x1+937)),de P (u [113,117,111,116,101,100]) q2 (.bool qd),de P (u [101,115,99,97,112,101,100,115,116,97,116,101]) q3 (.str U1 t0)]++zF P o) ee
noncomputable abbrev ve(P:Params)(lo:Nat):Code:=b6 Ef (BV P lo)
theorem dc{w:World}{L:Nat}{hd:Option Value}{A:Around}{R:Result→Shared→Prop}{d:Drawn}{os:OsState}{hb:Heap}{m0:cM}{g:GB}{fr:ah}{s:St}{c:Code}{nb:Nat}{X:Type}{C:Nat→X→Prop}{r:X→Result}{post:X→ah}{pre:ah}(F:fP w hd A R d os hb m0)(E:jF d os hb nb m0 C r post R)(Z:Rm A L hd)(n pl:Nat){C':Nat→X→Prop}(S:Spec w L hd c pre C' r post)(sel:List Nat)(h:∀n x,nb≤n→C' n x→C nb x)(ok:((go (ag w hd) n pl s).Y&&(cg 0 sel&&(qq c&&(dC (go (ag w hd) n pl s).S.T&&dM (go (ag w hd) n pl s).S.K))))=true:=by kernel_rfl)(ab:(go (ag w hd) n pl s).A=(go (ag w hd) n pl s).B:=by kernel_rfl)(ec:ff (go (ag w hd) n pl s).S.T=c:=by kernel_rfl)(hsel:bu (go (ag w hd) n pl s).S.O sel=pre.map some:=by kernel_rfl):Gd (aG w A R d os hb m0 g fr) s:=
 ax F E Z n pl pre [] fr (by rw[FK];exact S) sel (FL _) (λn x hn hC=>⟨x,h n x hn hC,rfl,λ_ h=>h,id⟩) ok ab ec hsel
theorem cV(w:World)(x1 x2 k1 k2 k3 t1 t2 t3 t4:Nat)(S:Str)(p c ep:Nat)(h:p<S.length)(hl:S.length≤1048576)(hc:sF S p=c):
  Spec w 1 none (.call (.ref 670) ⟨[.ref (x1+937),.int 1 t4],[]⟩) [(x1+937,ap 724 (x2+937)),(x2+937,tW w.params k1 k2 k3 t1 t2 t3 S p ep)]
   (X:=Tok×Tok) (λ_ _=>True) (λx=>.ok (.ret (.str (u [c]) x.1))) (λx=>[(x1+937,ap 724 (x2+937)),(x2+937,tW w.params k1 k2 k3 t1 t2 x.2 S (p+1:Nat) ep)]):=by
 subst hc
 by_cases h1:p+1<S.length
 ·exact om w x1 x2 k1 k2 k3 t1 t2 t3 t4 S p ep h1 hl
 ·have h2:S.length=p+1:=by lia
  have z:=mN w x1 x2 k1 k2 k3 t1 t2 t3 t4 S p ep h2.symm hl
  rw[h2]at z
  exact z
theorem Ad{c d:Nat}(h:c≠d):((u [c]).cps.toList==(u [d]).cps.toList)=false:=by
 show([c]==[d])=false
 simp[h]
theorem Ed{c d:Nat}(h:c≠d):(!(Builtin.Str.occurrences (u [d]) (u [c]) 0 (u [d]).length 1).isEmpty)=false:=by
 have e:Builtin.Str.subAt (u [d]) (u [c]) 0=false:=by
  have:Builtin.Str.subAt (u [d]) (u [c]) 0=(#[d]==#[c]):=rfl
  rw[this]
  simp[Ne.symm h]
 simp[Builtin.Str.occurrences,Id.run,Std.Legacy.Range.forIn_eq_forIn_range',Std.Legacy.Range.size,List.range'_succ,e,Str.length]
 rfl
theorem r4{w:World}{L:Nat}{hd:Option Value}{S:Str}{t:Tok}{n:Nat}(hn:S.length=n)(hl:n≤sizeLine):Spec w L hd (.builtin "len" ⟨[.str S t],[]⟩) [] (X:=Tok) (λ_ _=>True) (λk=>.ok (.ret (.int (n:Nat) k))) (λ_=>[]):=
 gB plain_len entry_len λA hp g d tk os Z hst hpre nd=>fq (wpAny_len_body (typeIs_str _ S t) F.slot_str_len F.entry_str_len (F.args_str_len_1 _) (gives_str_len S t) (by lia) (by rw[hn];rw[sizeLine_eq]at hl;lia)
  ⟨_,hp,_,g,by rw[hn],trivial,hpre,λp h=>absurd h FU,nd,λb o e _=>a6 e,Nat.le_refl _⟩)
theorem B4(T:List Nat)(c:Nat):u T++u [c]=u (T++[c]):=by
 show(⟨(⟨T⟩:Array Nat)++(⟨[c]⟩:Array Nat)⟩:Str)=⟨⟨T++[c]⟩⟩
 congr 1
 simp
theorem jl{w:World}{L:Nat}{hd:Option Value}{T:List Nat}{c:Nat}{t k:Tok}(hl:T.length+1≤sizeLine):Spec w L hd (.call (.builtin "str.__add__") ⟨[.str (u T) t,.str (u [c]) k],[]⟩) [] (X:=Tok) (λ_ _=>True) (λk=>.ok (.ret (.str (u (T++[c])) k))) (λ_=>[]):=by
 have z:=sK (w:=w) (L:=L) (hd:=hd) (x:=u T) (y:=u [c]) (t:=t) (u:=k) hl
 rw[B4]at z
 exact z
section
noncomputable def ix(σ:Nat)(q:Bool)(T:List Nat):List Nat→Option (List Nat×Bool×List Nat×Bool)
 |[]=>if σ=97 then some (T,q,[],true)else none
 |c::r =>
  if σ=97 then(if c=32 then some (T,q,r,false)else if c=34 then ix 34 q T r else if c=39 then ix 39 q T r else none)
  else if σ=39 then(if c=39 then ix 97 true T r else if c=10 then none else ix 39 true (T++[c]) r)
  else if σ=34 then(if c=34 then ix 97 true T r else if c=39 then ix 34 true (T++[c]) r else none)else none
noncomputable def gJ(e:Bool)(ts:Tok):Value:=match e with|true=>.none|false=>.str U1 ts
structure Ab where
 q4:Nat
 p:Nat
 z:Value
 ts:Nat
 tt:Nat
 t3:Nat
theorem qw{S:Str}{p c:Nat}{r:List Nat}(h:S.cps.toList.drop p=c::r):p<S.length∧sF S p=c∧S.cps.toList.drop (p+1)=r:=by
 have h1:p<S.cps.toList.length:=by
  rcases Nat.lt_or_ge p S.cps.toList.length with q|q
  ·exact q
  ·rw[List.drop_eq_nil_of_le q]at h
   cases h
 have h2:=List.drop_eq_getElem_cons h1
 rw[h]at h2
 obtain⟨e1,e2⟩:=List.cons.inj h2
 refine⟨by simpa [Str.length]using h1,?_,e2.symm⟩
 unfold sF
 rw[List.getD_eq_getElem?_getD,List.getElem?_eq_getElem h1,←e1]
 rfl
theorem n9{S:Str}{p:Nat}(h:S.cps.toList.drop p=[])(hp:p≤S.length):p=S.length:=by
 have:=List.drop_eq_nil_iff.mp h
 have e:S.cps.toList.length=S.length:=by simp[Str.length]
 lia
noncomputable abbrev Ai(P:Params)(κ ν:Nat→Nat)(x1 x2 y1 y2 d1 d2 k1 k2 k3 t1 t2 t3 lo q1 q2 q3 t0:Nat)(S:Str)(p:Nat)(stv tokv:Value)(qd:Bool)(o:Option (Tok×Value))(ee ep ep3:Nat):ah:=
 [(lo+937,Ee P q1 q2 q3 t0 x1 qd o ee),(x1+937,ap 859 (x2+937)),(x2+937,zf P κ ν y1 d1 d2 stv tokv ep),(y1+937,ap 724 (y2+937)),(y2+937,tW P k1 k2 k3 t1 t2 t3 S (p:Nat) ep3)]
section
variable{w:World}{x1 x2 y1 y2 d1 d2 k1 k2 k3 t1 t2 ep ep3 lo q1 q2 q3 t0:Nat}{κ ν:Nat→Nat}{S:Str}
theorem re(hS:S.length≤1000):∀(rest:List Nat)(σ:Nat)(qd:Bool)(T:List Nat)(p q4:Nat)(z4:Value)(ee t3 ts tt:Nat)(T':List Nat)(q':Bool)(r':List Nat)(e:Bool),
  S.cps.toList.drop p=rest→p≤S.length→T.length≤p→ix σ qd T rest=some (T',q',r',e)→T'≠[]→
  Spec w 2 none (ve w.params lo) (Ai w.params κ ν x1 x2 y1 y2 d1 d2 k1 k2 k3 t1 t2 t3 lo q1 q2 q3 t0 S p (.str (u [σ]) ts) (.str (u T) tt) qd (some (q4,z4)) ee ep ep3)
   (X:=Ab) (λ_ x=>S.cps.toList.drop x.p=r'∧x.p≤S.length) (λ_=>.ok .next)
   (λx=>Ai w.params κ ν x1 x2 y1 y2 d1 d2 k1 k2 k3 t1 t2 x.t3 lo q1 q2 q3 t0 S x.p (gJ e x.ts) (.str (u T') x.tt) q' (some (x.q4,x.z)) ee ep ep3):=by
 have hl:S.length≤1048576:=by lia
 intro rest
 induction rest with
 |nil =>
  intro σ qd T p q4 z4 ee t3 ts tt T' q' r' e hd hpl hTp h hne
  have hp:=n9 hd hpl
  rw[ix]at h
  split at h
  ·rename_i hσ
   subst hσ
   obtain⟨rfl,rfl,rfl,rfl⟩:T=T'∧qd=q'∧[]=r'∧true=e:=by simpa using h
   obtain⟨th,tl,rfl⟩:=List.exists_cons_of_ne_nil hne
   refine ak λA R d os hb m0 g tk b Z F E=>?_
   refine ex F Z 33 0x186000000000000000000080000081 ?_
   intro sS
   refine cx (L':=1) (hd':=none) F Z 81 0x51000000040000000000040000000000040c0082000002000002043002080000080000086 (jr _ y1 y2 k1 k2 k3 t1 t2 t3 (tk+6) S p ep3 hp hl) [3,4] λ(rd:Tok×Tok)m1 kk1 g1 _=>?_
   intro sS
   refine cx (post:=λ_=>[(m1+937,aW [.str U3 (kk1+12),.str (u [99]) (kk1+13)])]) (L':=0) (hd':=none) F Z 203 0x1c70c00820000020000020430020800000800000810c00820000020000020430020800000800000810c008200000200000207f0c0082000002000002043002080000080000081fc3002080000080000081fc1041 (iR (x:=m1) (S:=U3) (u:=ts) (b:=true) (.cons U3 _ (.cons (u [99]) _ .nil)) rfl) [6] λ_ m2 kk2 g2 _=>?_
   intro sS
   exact fx F E 40 0x30c3002000002002002000002041 [0,1,2,3,4] ⟨q4,p,.str (u []) rd.1,0,tt,rd.2⟩ _ [] [] (FL _) (FK _).symm ⟨hd,hpl⟩
  ·cases h
 |cons cc r ih =>
  intro σ qd T p q4 z4 ee t3 ts tt T' q' r' e hd hpl hTp h hne
  obtain⟨hp,hc,hd'⟩:=qw hd
  have hT:T.length+1≤sizeLine:=by rw[sizeLine_eq];lia
  have hTc:(T++[cc]).length≤p+1:=by rw[FZ];exact Nat.succ_le_succ hTp
  rw[ix]at h
  split at h
  ·rename_i hσ
   subst hσ
   split at h
   ·rename_i hcc
    subst hcc
    obtain⟨rfl,rfl,rfl,rfl⟩:T=T'∧qd=q'∧r=r'∧false=e:=by simpa using h
    obtain⟨th,tl,rfl⟩:=List.exists_cons_of_ne_nil hne
    obtain⟨tn,htn⟩:∃tn,tl.length=tn:=⟨_,rfl⟩
    have hn:(u (th::tl)).length=tn+1:=by show tl.length+1=_;rw[htn]
    have hn':tn+1≤sizeLine:=by rw[←htn];rw[FT]at hT;lia
    refine ak λA R d os hb m0 g tk b Z F E=>?_
    refine ex F Z 33 0x186000000000000000000080000081 ?_
    intro sS
    refine cx (L':=1) (hd':=none) F Z 81 0x51000000040000000000040000000000040c0082000002000002043002080000080000086 (cV _ y1 y2 k1 k2 k3 t1 t2 t3 (tk+6) S p 32 ep3 hp hl hc) [3,4] λ(rd:Tok×Tok)m1 kk1 g1 _=>?_
    intro sS
    refine cx (post:=λ_=>[(m1+937,aW [.str U3 (kk1+12),.str (u [99]) (kk1+13)])]) (L':=0) (hd':=none) F Z 203 0x1c70c00820000020000020430020800000800000810c00820000020000020430020800000800000810c008200000200000207f0c0082000002000002043002080000080000081fc3002080000080000081fc1041 (iR (x:=m1) (S:=U3) (u:=ts) (b:=true) (.cons U3 _ (.cons (u [99]) _ .nil)) rfl) [6] λ_ m2 kk2 g2 _=>?_
    intro sS
    refine cx (L':=0) (hd':=none) F Z 113 0xc00820000020000020430c300200000200200200000207f0c0082000002000002043002080000080000081041 (r4 (t:=tt) hn hn') [] λtq m3 kk3 g3 _=>?_
    intro sS
    exact fx F E 1 0 [0,1,2,3,4] ⟨q4,p+1,.str U1 rd.1,kk2+5,tt,rd.2⟩ _ [] [] (FL _) (FK _).symm ⟨hd',hp⟩
   ·split at h
    ·rename_i _ hcc
     subst hcc
     refine ak λA R d os hb m0 g tk b Z F E=>?_
     refine ex F Z 33 0x186000000000000000000080000081 ?_
     intro sS
     refine cx (L':=1) (hd':=none) F Z 81 0x51000000040000000000040000000000040c0082000002000002043002080000080000086 (cV _ y1 y2 k1 k2 k3 t1 t2 t3 (tk+6) S p 34 ep3 hp hl hc) [3,4] λ(rd:Tok×Tok)m1 kk1 g1 _=>?_
     intro sS
     refine cx (post:=λ_=>[(m1+937,aW [.str U3 (kk1+12),.str (u [99]) (kk1+13)])]) (L':=0) (hd':=none) F Z 203 0x1c70c00820000020000020430020800000800000810c00820000020000020430020800000800000810c008200000200000207f0c0082000002000002043002080000080000081fc3002080000080000081fc1041 (iR (x:=m1) (S:=U3) (u:=ts) (b:=true) (.cons U3 _ (.cons (u [99]) _ .nil)) rfl) [6] λ_ m2 kk2 g2 _=>?_
     intro sS
     have I:=ih 34 qd T (p+1) q4 (.str (u [34]) rd.1) ee rd.2 rd.1 tt T' q' r' e hd' hp (by lia) h hne
     exact dc F E Z 165 0x30c30020000020020020000020410c00820000020000020410c008200000200000207f0c0082000002000002043002080000080000081043002080000080000081041 I [0,1,2,3,4] (λ_ _ _ h=>h)
    ·split at h
     ·rename_i _ _ hcc
      subst hcc
      refine ak λA R d os hb m0 g tk b Z F E=>?_
      refine ex F Z 33 0x186000000000000000000080000081 ?_
      intro sS
      refine cx (L':=1) (hd':=none) F Z 81 0x51000000040000000000040000000000040c0082000002000002043002080000080000086 (cV _ y1 y2 k1 k2 k3 t1 t2 t3 (tk+6) S p 39 ep3 hp hl hc) [3,4] λ(rd:Tok×Tok)m1 kk1 g1 _=>?_
      intro sS
      refine cx (post:=λ_=>[(m1+937,aW [.str U3 (kk1+12),.str (u [99]) (kk1+13)])]) (L':=0) (hd':=none) F Z 203 0x1c70c00820000020000020430020800000800000810c00820000020000020430020800000800000810c008200000200000207f0c0082000002000002043002080000080000081fc3002080000080000081fc1041 (iR (x:=m1) (S:=U3) (u:=ts) (b:=true) (.cons U3 _ (.cons (u [99]) _ .nil)) rfl) [6] λ_ m2 kk2 g2 _=>?_
      intro sS
      have I:=ih 39 qd T (p+1) q4 (.str vT rd.1) ee rd.2 rd.1 tt T' q' r' e hd' hp (by lia) h hne
      exact dc F E Z 165 0x30c30020000020020020000020410c00820000020000020410c008200000200000207f0c0082000002000002043002080000080000081043002080000080000081041 I [0,1,2,3,4] (λ_ _ _ h=>h)
     ·cases h
  ·split at h
   ·rename_i _ hσ
    subst hσ
    split at h
    ·rename_i hcc
     subst hcc
     refine ak λA R d os hb m0 g tk b Z F E=>?_
     refine ex F Z 33 0x186000000000000000000080000081 ?_
     intro sS
     refine cx (L':=1) (hd':=none) F Z 81 0x51000000040000000000040000000000040c0082000002000002043002080000080000086 (cV _ y1 y2 k1 k2 k3 t1 t2 t3 (tk+6) S p 39 ep3 hp hl hc) [3,4] λ(rd:Tok×Tok)m1 kk1 g1 _=>?_
     intro sS
     have I:=ih 97 true T (p+1) q4 (.str vT rd.1) ee rd.2 (kk1+14) tt T' q' r' e hd' hp (by lia) h hne
     exact dc F E Z 229 0xc30c00800000800800800000810c008200000200000207f0c00820000020000020410410430020800000800000810c008200000200000207f0c0082000002000002043002080000080000081fc3002080000080000081fc1041 I [0,1,2,3,4] (λ_ _ _ h=>h)
    ·rename_i h39
     split at h
     ·cases h
     ·rename_i h10
      by_cases h92:cc=92
      ·subst h92
       refine ak λA R d os hb m0 g tk b Z F E=>?_
       refine ex F Z 33 0x186000000000000000000080000081 ?_
       intro sS
       refine cx (L':=1) (hd':=none) F Z 81 0x51000000040000000000040000000000040c0082000002000002043002080000080000086 (cV _ y1 y2 k1 k2 k3 t1 t2 t3 (tk+6) S p 92 ep3 hp hl hc) [3,4] λ(rd:Tok×Tok)m1 kk1 g1 _=>?_
       intro sS
       refine cx (L':=0) (hd':=none) F Z 292 0x430020800000800000810c00820000020000020430020800000800000810c00820000020000020410c008200000200000207f0c00820000020000020410410430020800000800000810c008200000200000207f0c0082000002000002043002080000080000081fc3002080000080000081fc1041 (jl (c:=92) (t:=tt+0) (k:=rd.1) hT) [] λta m2 kk2 g2 _=>?_
       intro sS
       have I:=ih 39 true (T++[92]) (p+1) q4 (.str (u [92]) rd.1) ee rd.2 ts ta T' q' r' e hd' hp hTc h hne
       exact dc F E Z 24 0x30c3002000002002002000002 I [0,1,2,3,4] (λ_ _ _ h=>h)
      ·refine ak λA R d os hb m0 g tk b Z F E=>?_
       refine ex F Z 33 0x186000000000000000000080000081 ?_
       intro sS
       refine cx (L':=1) (hd':=none) F Z 81 0x51000000040000000000040000000000040c0082000002000002043002080000080000086 (cV _ y1 y2 k1 k2 k3 t1 t2 t3 (tk+6) S p cc ep3 hp hl hc) [3,4] λ(rd:Tok×Tok)m1 kk1 g1 _=>?_
       intro sS
       refine cx (L':=0) (hd':=none) F Z 14 16519233 (kV (t:=rd.1) (u:=kk1+1) (Ad h10)) [] λ_ m2 kk2 g2 _=>?_
       intro sS
       refine cx (L':=0) (hd':=none) F Z 160 0x3f0c00820000020000020410410430020800000800000810c008200000200000207f0c0082000002000002043002080000080000081fc3002080000080000081 (kV (t:=rd.1) (u:=ts+0) (Ad h39)) [] λ_ m3 kk3 g3 _=>?_
       intro sS
       refine cx (L':=0) (hd':=none) F Z 43 0x3002080000080000081043002080000080000081 (vz (t:=ν 9) (u:=rd.1) (Ed h92)) [] λ_ m4 kk4 g4 _=>?_
       intro sS
       refine cx (L':=0) (hd':=none) F Z 24 0x43002080000080000081 (jl (c:=cc) (t:=tt+0) (k:=rd.1) hT) [] λta m5 kk5 g5 _=>?_
       intro sS
       have I:=ih 39 true (T++[cc]) (p+1) q4 (.str (u [cc]) rd.1) ee rd.2 ts ta T' q' r' e hd' hp hTc h hne
       exact dc F E Z 24 0x30c3002000002002002000002 I [0,1,2,3,4] (λ_ _ _ h=>h)
   ·split at h
    ·rename_i _ _ hσ
     subst hσ
     split at h
     ·rename_i hcc
      subst hcc
      refine ak λA R d os hb m0 g tk b Z F E=>?_
      refine ex F Z 33 0x186000000000000000000080000081 ?_
      intro sS
      refine cx (L':=1) (hd':=none) F Z 81 0x51000000040000000000040000000000040c0082000002000002043002080000080000086 (cV _ y1 y2 k1 k2 k3 t1 t2 t3 (tk+6) S p 34 ep3 hp hl hc) [3,4] λ(rd:Tok×Tok)m1 kk1 g1 _=>?_
      intro sS
      have I:=ih 97 true T (p+1) q4 (.str (u [34]) rd.1) ee rd.2 (kk1+14) tt T' q' r' e hd' hp (by lia) h hne
      exact dc F E Z 229 0xc30c00800000800800800000810c008200000200000207f0c00820000020000020410410430020800000800000810c008200000200000207f0c0082000002000002043002080000080000081fc3002080000080000081fc1041 I [0,1,2,3,4] (λ_ _ _ h=>h)
     ·split at h
      ·rename_i _ hcc
       subst hcc
       refine ak λA R d os hb m0 g tk b Z F E=>?_
       refine ex F Z 33 0x186000000000000000000080000081 ?_
       intro sS
       refine cx (L':=1) (hd':=none) F Z 81 0x51000000040000000000040000000000040c0082000002000002043002080000080000086 (cV _ y1 y2 k1 k2 k3 t1 t2 t3 (tk+6) S p 39 ep3 hp hl hc) [3,4] λ(rd:Tok×Tok)m1 kk1 g1 _=>?_
       intro sS
       refine cx (L':=0) (hd':=none) F Z 250 0x430020800000800000810c00820000020000020410c008200000200000207f0c00820000020000020410410430020800000800000810c008200000200000207f0c0082000002000002043002080000080000081fc3002080000080000081fc1041 (jl (c:=39) (t:=tt+0) (k:=rd.1) hT) [] λta m2 kk2 g2 _=>?_
       intro sS
       have I:=ih 34 true (T++[39]) (p+1) q4 (.str vT rd.1) ee rd.2 ts ta T' q' r' e hd' hp hTc h hne
       exact dc F E Z 24 0x30c3002000002002002000002 I [0,1,2,3,4] (λ_ _ _ h=>h)
      ·cases h
    ·cases h
noncomputable def ko:List Nat→Option (List Nat×Bool×List Nat×Bool)
 |[]=>none
 |c::r=>if c=97 then ix 97 false [97] r else if c=39 then ix 39 false [] r else none
theorem oV{ts tt t3 p ee:Nat}{rest T' r':List Nat}{q' e:Bool}(hS:S.length≤1000)(hd:S.cps.toList.drop p=rest)(hpl:p≤S.length)(h:ko rest=some (T',q',r',e))(hne:T'≠[]):
  Spec w 2 none (ve w.params lo) (Ai w.params κ ν x1 x2 y1 y2 d1 d2 k1 k2 k3 t1 t2 t3 lo q1 q2 q3 t0 S p (.str U1 ts) (.str (u []) tt) false none ee ep ep3)
   (X:=Ab) (λ_ x=>S.cps.toList.drop x.p=r'∧x.p≤S.length) (λ_=>.ok .next)
   (λx=>Ai w.params κ ν x1 x2 y1 y2 d1 d2 k1 k2 k3 t1 t2 x.t3 lo q1 q2 q3 t0 S x.p (gJ e x.ts) (.str (u T') x.tt) q' (some (x.q4,x.z)) (ee+1) ep ep3):=by
 have hl:S.length≤1048576:=by lia
 have J:=λq4 z4 t3 ts tt=>re (w:=w) (x1:=x1) (x2:=x2) (y1:=y1) (y2:=y2) (d1:=d1) (d2:=d2) (k1:=k1) (k2:=k2) (k3:=k3) (t1:=t1) (t2:=t2) (ep:=ep) (ep3:=ep3) (lo:=lo) (q1:=q1) (q2:=q2) (q3:=q3) (t0:=t0) (κ:=κ) (ν:=ν) hS rest.tail 97 false [97] (p+1) q4 z4 (ee+1) t3 ts tt T' q' r' e
 have J2:=λq4 z4 t3 ts tt=>re (w:=w) (x1:=x1) (x2:=x2) (y1:=y1) (y2:=y2) (d1:=d1) (d2:=d2) (k1:=k1) (k2:=k2) (k3:=k3) (t1:=t1) (t2:=t2) (ep:=ep) (ep3:=ep3) (lo:=lo) (q1:=q1) (q2:=q2) (q3:=q3) (t0:=t0) (κ:=κ) (ν:=ν) hS rest.tail 39 false [] (p+1) q4 z4 (ee+1) t3 ts tt T' q' r' e
 rcases rest with _|⟨c,r⟩
 ·cases h
 obtain⟨hp,hc,hd'⟩:=qw hd
 rw[ko]at h
 split at h
 ·rename_i hcc
  subst hcc
  have J:=λq4 z4 t3 ts tt=>J q4 z4 t3 ts tt hd' hp (by rw[List.length_singleton];lia) h hne
  refine ak λA R d os hb m0 g tk b Z F E=>?_
  refine ex F Z 33 0x186000000000000000000080000081 ?_
  intro sS
  refine cx (L':=1) (hd':=none) F Z 81 0x51000000040000000000040000000000040c0082000002000002043002080000080000086 (cV _ y1 y2 k1 k2 k3 t1 t2 t3 (tk+6) S p 97 ep3 hp hl hc) [3,4] λ(rd:Tok×Tok)m1 kk1 g1 _=>?_
  intro sS
  exact dc F E Z 283 0xc30c00800000800800800000810c30c00800000800800800000810430020800000800000810430020800000800000810430020800000800000810c00820000020000020410c008200000200000204107f0c0082000002000002043002080000080000081fc3002080000080000081fc1041 (J kk1 (.str U3 rd.1) rd.2 (kk1+16) rd.1) [0,1,2,3,4] (λ_ _ _ h=>h)
 ·split at h
  ·rename_i _ hcc
   subst hcc
   have J2:=λq4 z4 t3 ts tt=>J2 q4 z4 t3 ts tt hd' hp (Nat.zero_le _) h hne
   refine ak λA R d os hb m0 g tk b Z F E=>?_
   refine ex F Z 33 0x186000000000000000000080000081 ?_
   intro sS
   refine cx (L':=1) (hd':=none) F Z 81 0x51000000040000000000040000000000040c0082000002000002043002080000080000086 (cV _ y1 y2 k1 k2 k3 t1 t2 t3 (tk+6) S p 39 ep3 hp hl hc) [3,4] λ(rd:Tok×Tok)m1 kk1 g1 _=>?_
   intro sS
   refine ex F Z 260 0x1c70000000000000000000800000810430020800000800000810430020800000800000810430020800000800000810c00820000020000020410c008200000200000204107f0c0082000002000002043002080000080000081fc3002080000080000081fc1041 ?_
   intro sS
   exact dc F E Z 104 0x30c30020000020020020000020410c0082000002000002043002080000080000081043002080000080000087 (J2 kk1 (.str vT rd.1) rd.2 rd.1 tt) [0,1,2,3,4] (λ_ _ _ h=>h)
  ·cases h
end
end
section
structure Aa where
 p:Nat
 ts:Nat
 tt:Nat
 t3:Nat
 rt:Nat
noncomputable abbrev r6(P:Params)(κ ν:Nat→Nat)(x1 x2 y1 y2 d1 d2 k1 k2 k3 t1 t2 t3:Nat)(S:Str)(p:Nat)(stv tokv:Value)(ep ep3:Nat):ah:=
 [(x1+937,ap 859 (x2+937)),(x2+937,zf P κ ν y1 d1 d2 stv tokv ep),(y1+937,ap 724 (y2+937)),(y2+937,tW P k1 k2 k3 t1 t2 t3 S (p:Nat) ep3)]
section
variable{w:World}{x1 x2 y1 y2 d1 d2 k1 k2 k3 t1 t2 ep ep3:Nat}{κ ν:Nat→Nat}{S:Str}
theorem zG{ts tt t3 p:Nat}{rest T' r':List Nat}{q' e:Bool}(hS:S.length≤1000)(hd:S.cps.toList.drop p=rest)(hpl:p≤S.length)(h:ko rest=some (T',q',r',e))(hne:T'≠[]):
  Spec w 3 none (.call (.ref 827) ⟨[.ref (x1+937)],[]⟩) (r6 w.params κ ν x1 x2 y1 y2 d1 d2 k1 k2 k3 t1 t2 t3 S p (.str U1 ts) (.str (u []) tt) ep ep3)
   (X:=Aa) (λ_ x=>S.cps.toList.drop x.p=r'∧x.p≤S.length) (λx=>.ok (.ret (.str (u T') x.rt)))
   (λx=>r6 w.params κ ν x1 x2 y1 y2 d1 d2 k1 k2 k3 t1 t2 x.t3 S x.p (gJ e x.ts) (.str (u []) x.tt) ep ep3):=by
 obtain⟨th,tl,rfl⟩:=List.exists_cons_of_ne_nil hne
 refine ak λA R d os hb m0 g tk b Z F E=>?_
 cases q'
 ·skip
  refine ex F Z 7 1331200 ?_
  intro sS
  refine cx (post:=λ(x:Ab)=>Ai w.params κ ν x1 x2 y1 y2 d1 d2 k1 k2 k3 t1 t2 x.t3 b tk (tk+1) (tk+3) (tk+2) S x.p (gJ e x.ts) (.str (u (th::tl)) x.tt) false (some (x.q4,x.z)) 4 ep ep3) (L':=2) (hd':=none) F Z 20 1331525 (oV (q1:=tk) (q2:=tk+1) (q3:=tk+3) (t0:=tk+2) (lo:=b) (tt:=tt) (ts:=ts) (t3:=t3) hS hd hpl h hne) [4,0,1,2,3] λ(x:Ab)m1 kk1 g1 hx=>?_
  intro sS
  refine cx (L':=0) (hd':=none) F Z 84 0x3f145080041000001000001142082001000001001001000001145142001040000040000045 (kV (x:=u (th::tl)) (y:=u []) (t:=x.tt) (u:=kk1+6) (b:=false) rfl) [] λ_ m2 kk2 g2 _=>?_
  intro sS
  exact fs F E 29 0x5fc2001040000040000045 [0,1,2,3] (λ_ o _=>⟨x.p,x.ts,iO (ph o 1 15),x.t3,x.tt⟩) (by kernel_rfl) (by kernel_rfl) (by kernel_rfl) (by kernel_rfl) hx
 ·skip
  refine ex F Z 7 1331200 ?_
  intro sS
  refine cx (post:=λ(x:Ab)=>Ai w.params κ ν x1 x2 y1 y2 d1 d2 k1 k2 k3 t1 t2 x.t3 b tk (tk+1) (tk+3) (tk+2) S x.p (gJ e x.ts) (.str (u (th::tl)) x.tt) true (some (x.q4,x.z)) 4 ep ep3) (L':=2) (hd':=none) F Z 20 1331525 (oV (q1:=tk) (q2:=tk+1) (q3:=tk+3) (t0:=tk+2) (lo:=b) (tt:=tt) (ts:=ts) (t3:=t3) hS hd hpl h hne) [4,0,1,2,3] λ(x:Ab)m1 kk1 g1 hx=>?_
  intro sS
  exact fs F E 108 0x17f080041000001000001145080041000001000001142082001000001001001000001145142001040000040000045 [0,1,2,3] (λ_ o _=>⟨x.p,x.ts,iO (ph o 1 15),x.t3,x.tt⟩) (by kernel_rfl) (by kernel_rfl) (by kernel_rfl) (by kernel_rfl) hx
theorem vf{tt t3 p:Nat}(hS:S.length≤1000)(hp:p=S.length):
  Spec w 3 none (.call (.ref 827) ⟨[.ref (x1+937)],[]⟩) (r6 w.params κ ν x1 x2 y1 y2 d1 d2 k1 k2 k3 t1 t2 t3 S p .none (.str (u []) tt) ep ep3)
   (X:=Nat×Nat) (λ_ _=>True) (λ_=>.ok (.ret .none))
   (λx=>r6 w.params κ ν x1 x2 y1 y2 d1 d2 k1 k2 k3 t1 t2 x.1 S p .none (.str (u []) x.2) ep ep3):=by
 have hl:S.length≤1048576:=by lia
 refine ak λA R d os hb m0 g tk b Z F E=>?_
 refine ex F Z 7 1331200 ?_
 intro sS
 refine ex F Z 54 0x186000000000000000000040000045145145 ?_
 intro sS
 refine cx (L':=1) (hd':=none) F Z 81 0x40c0000003000000000003000000000003080041000001000001142001040000040000046 (jr _ y1 y2 k1 k2 k3 t1 t2 t3 (tk+10) S p ep3 hp hl) [2,3] λ(rd:Tok×Tok)m1 kk1 g1 _=>?_
 intro sS
 exact fs F E 218 0x5fc2001040000040000045145fc5142001040000040000045082080040000040040040000045145080041000001000001142082001000001001001000001142001040000040000045fc2001040000040000045fc5145 [0,1,2,3] (λ_ o _=>(rd.2,iO (ph o 1 15))) (by kernel_rfl) (by kernel_rfl) (by kernel_rfl) (by kernel_rfl) trivial
end
end
section
noncomputable abbrev cH(P:Params)(κ ν:Nat→Nat)(x1 x2 y1 y2 d1 d2 k1 k2 k3 t1 t2 t3:Nat)(S:Str)(p:Nat)(stv tokv:Value)(ep ep3:Nat):ah:=
 [(x1+937,ap 859 (x2+937)),(x2+937,zf P κ ν y1 d1 d2 stv tokv ep),(y1+937,ap 724 (y2+937)),(y2+937,tW P k1 k2 k3 t1 t2 t3 S (p:Nat) ep3),(d1+937,E7),(d2+937,E7)]
section
variable{w:World}{x1 x2 y1 y2 d1 d2 k1 k2 k3 t1 t2 ep ep3:Nat}{κ ν:Nat→Nat}{S:Str}
theorem zo{ts tt t3 p:Nat}{rest T' r':List Nat}{q' e:Bool}(hS:S.length≤1000)(hd:S.cps.toList.drop p=rest)(hpl:p≤S.length)(h:ko rest=some (T',q',r',e))(hne:T'≠[]):
  Spec w 4 none (.call (.ref 856) ⟨[.ref (x1+937)],[]⟩) (cH w.params κ ν x1 x2 y1 y2 d1 d2 k1 k2 k3 t1 t2 t3 S p (.str U1 ts) (.str (u []) tt) ep ep3)
   (X:=Aa) (λ_ x=>S.cps.toList.drop x.p=r'∧x.p≤S.length) (λx=>.ok (.ret (.str (u T') x.rt)))
   (λx=>cH w.params κ ν x1 x2 y1 y2 d1 d2 k1 k2 k3 t1 t2 x.t3 S x.p (gJ e x.ts) (.str (u []) x.tt) ep ep3):=by
 obtain⟨th,tl,rfl⟩:=List.exists_cons_of_ne_nil hne
 refine ak λA R d os hb m0 g tk b Z F E=>?_
 refine ex F Z 7 1863680 ?_
 intro sS
 refine ex F Z 32 0x8200000081000000040000040000047 ?_
 intro sS
 refine cx (post:=λ(x:Aa)=>r6 w.params κ ν x1 x2 y1 y2 d1 d2 k1 k2 k3 t1 t2 x.t3 S x.p (gJ e x.ts) (.str (u []) x.tt) ep ep3) (L':=3) (hd':=none) F Z 58 0x81000000040000040000048145145142001040000040000048 (zG (ts:=ts) (tt:=tt) (t3:=t3) hS hd hpl h hne) [0,1,2,3] λ(x:Aa)m1 kk1 g1 hx=>?_
 intro sS
 exact fs F E 138 0x7fff0800410000010000011c71c723f08004100000100000123ffc2001040000040000048202001040000040000048208 [0,1,2,3,4,5] (λ_ _ _=>x) (by kernel_rfl) (by kernel_rfl) (by kernel_rfl) (by kernel_rfl) hx
theorem ww{tt t3 p:Nat}(hS:S.length≤1000)(hp:p=S.length):
  Spec w 4 none (.call (.ref 820) ⟨[.ref (x1+937)],[]⟩) (cH w.params κ ν x1 x2 y1 y2 d1 d2 k1 k2 k3 t1 t2 t3 S p .none (.str (u []) tt) ep ep3)
   (X:=Nat×Nat) (λ_ _=>True) (λ_=>.ok (.ret .none))
   (λx=>cH w.params κ ν x1 x2 y1 y2 d1 d2 k1 k2 k3 t1 t2 x.1 S p .none (.str (u []) x.2) ep ep3):=by
 refine ak λA R d os hb m0 g tk b Z F E=>?_
 refine ex F Z 7 1863680 ?_
 intro sS
 refine cx (post:=λ(x:Nat×Nat)=>r6 w.params κ ν x1 x2 y1 y2 d1 d2 k1 k2 k3 t1 t2 x.1 S p .none (.str (u []) x.2) ep ep3) (L':=3) (hd':=none) F Z 58 0x81000000040000040000047145145142001040000040000047 (vf (tt:=tt) (t3:=t3) hS hp) [0,1,2,3] λ(x:Nat×Nat)m1 kk1 g1 _=>?_
 intro sS
 exact fs F E 112 0x2001040000040000047186186182001040000040000047fc20010400000400000471c20010400000400000471c7 [0,1,2,3,4,5] (λ_ _ _=>x) (by kernel_rfl) (by kernel_rfl) (by kernel_rfl) (by kernel_rfl) trivial
end
end
section
theorem jk{w:World}{hp:Heap}{x y:Nat}{o o2:Obj}{f:Obj→Obj}{g:GB}{d:Drawn}{tk:Nat}{os:OsState}(hst:cb w hp)(h:hp.get? (y+937)=some o)(h2:hp.get? (x+937)=some o2)(hne:(x+937:Addr)≠y+937)(hf:(f o).isFreed=false):
  bj d os hp hp.objs.size (md ([(y+937,o),(x+937,o2)].map (·.1))) (X:=Nat) (λ_ _=>True) (λn=>.error (.ref (n+938))) (λn=>[(y+937,f o),(x+937,o2)]++[(n+937,aW []),(n+938,b8 (n+937))]) (.error (.ref (hp.objs.size+1)))
   ⟨((hp.update (y+937) f).push {cls:=.type "tuple",data:=.seq #[]}).push {cls:=.type "StopIteration",data:=.fields #[.ref hp.objs.size,.none,.none,.none,.bool false,.none]},g,d,tk,os⟩:=by
 obtain⟨n,hn⟩:∃n,hp.objs.size=n+937:=⟨hp.objs.size-937,by have:=aV w hp hst;lia⟩
 have hs:Heap.SameBut (y+937) hp (hp.update (y+937) f):=Heap.SameBut.update ..
 have l1:y+937<n+937:=hn▸Heap.lt_size h
 have l2:x+937<n+937:=hn▸Heap.lt_size h2
 rw[hn]
 refine⟨n,_,tk,g,rfl,trivial,?_,?_,?_,?_,?_⟩
 ·intro p hp'
  simp only[List.cons_append,List.nil_append,FY,FU,or_false]at hp'
  rcases hp' with rfl|rfl|rfl|rfl
  ·exact Heap.get?_push_of_some _ (Heap.get?_push_of_some _ (Heap.get?_update_self f h hf))
  ·exact Heap.get?_push_of_some _ (Heap.get?_push_of_some _ ((hs.2 _ hne).trans h2))
  ·refine Heap.get?_push_of_some _ ?_
   rw[iQ,←hn,←hs.1]
   exact Heap.get?_push_size _ rfl
  ·rw[iK]
   have:n+938=((hp.update (y+937) f).push {cls:=.type "tuple",data:=.seq #[]}).objs.size:=by rw[Heap.size_push,hs.1,hn]
   rw[this]
   exact Heap.get?_push_size _ rfl
 ·intro p hp'
  simp only[List.cons_append,List.nil_append,FY,FU,or_false]at hp'
  rcases hp' with rfl|rfl|rfl|rfl
  ·exact .inl (.head _)
  ·exact .inl (.tail _ (.head _))
  ·exact .inr (Nat.le_refl _)
  ·exact .inr (Nat.le_succ _)
 ·simp only[List.cons_append,List.nil_append,FR,List.map_nil,List.nodup_cons,FY,FU,or_false,not_or,not_false_eq_true,List.nodup_nil,and_true]
  exact⟨⟨hne.symm,Nat.ne_of_lt l1,Nat.ne_of_lt (Nat.lt_succ_of_lt l1)⟩,⟨Nat.ne_of_lt l2,Nat.ne_of_lt (Nat.lt_succ_of_lt l2)⟩,Nat.ne_of_lt (Nat.lt_succ_self _)⟩
 ·intro b o e hb
  simp only[FR,List.map_nil,FY,not_or]at hb
  exact a6 (Heap.get?_push_of_some _ (Heap.get?_push_of_some _ ((hs.2 b hb.1).trans e)))
 ·rw[Heap.size_push,Heap.size_push,hs.1,hn]
  lia
noncomputable abbrev bR(d:Addr)(i n ep:Nat):Obj:=⟨.type SL.s9642947811633093969x18,none,.fields ⟨[.ref d,.int i 0,.int n 0,.int ep 0]⟩,⟨[]⟩⟩
noncomputable abbrev d9(i n ep:Nat):Obj:=⟨.type SL.s9642947811633093969x18,none,.fields ⟨[.none,.int i 0,.int n 0,.int ep 0]⟩,⟨[]⟩⟩
theorem dQ(d:Addr)(i n ep:Nat):(bR d i n ep).cls=.type "dict_valueiterator":=by kernel_rfl
section
variable{w:World}{L:Nat}{hd:Option Value}{x y i ep:Nat}{es:List DictEntry}{e:DictEntry}
theorem lq(w:World)(it d:Addr)(i ep:Nat)(es:List DictEntry)(e:DictEntry)(hx:es[i]?=some e):
  MeetsIn pw w (Builtin.«dict_valueiterator.__next__» ⟨[.ref it],[]⟩) (λ_ R s=>s.heap.get? it=some (bR d i es.length ep)∧s.heap.get? d=some (ae es ep)∧R (.ok (.ret e.val)) {s with heap:=s.heap.update it (Obj.mapFields (·.setIfInBounds 1 (rawInt ((i:Int)+1))))}):=
 .of_wp λA R s⟨ho,hod,h⟩=>by
  have hT:s.TypeIs (.ref it) "dict_valueiterator":=⟨_,ho,dQ ..⟩
  have hlt:i<es.length:=(List.getElem?_eq_some_iff.mp hx).1
  have hx':(⟨es⟩:Array DictEntry)[i]?=some e:=by simpa using hx
  refine wpAny_bind (wpAny_pure ?_)
  refine wpAny_bind ?_
  refine wpAny_bind ?_
  refine wpAny_bind (wpAny_typeNameOfWhole_valiter hT (wpAny_pure ?_))
  refine wpAny_bind (wpAny_fieldsOf ho rfl ?_)
  have hown:Builtin.Dict_items.ownsTuple "dict_valueiterator"=false:=by decide
  rw[hown,if_neg Bool.false_ne_true]
  show wpAny _ _ (if(Value.ref d==Value.none)=true then _ else _) _ _ s
  rw[if_neg (show¬((Value.ref d==Value.none)=true)from Bool.false_ne_true)]
  refine wpAny_bind (wpAny_pure ?_)
  refine wpAny_bind (wpAny_dictEntries (es:=⟨es⟩) hod rfl ?_)
  rw[if_neg (by simp)]
  refine wpAny_bind (wpAny_pure ?_)
  refine wpAny_bind (wpAny_dictEpoch (es:=⟨es⟩) hod rfl ?_)
  rw[if_neg (by simp)]
  refine wpAny_pure ?_
  dsimp only;rw[if_neg (show¬((i:Int)<0)from by lia),Int.toNat_natCast,hx']
  refine wpAny_bind ?_
  refine wpAny_bind (wpAny_typeNameOfWhole_valiter hT (wpAny_pure ?_))
  refine wpAny_bind (wpAny_isOneOf_valiter hT ?_)
  show wpAny _ _ (setField (.ref it) 1 (rawInt ((i:Int)+1))>>=_) _ _ s
  refine wpAny_bind (wpAny_setField ho rfl (by simp) ?_)
  have hT':Shared.TypeIs {s with heap:=s.heap.update it (Obj.mapFields (·.setIfInBounds 1 (rawInt ((i:Int)+1))))} (.ref it) "dict_valueiterator":=⟨_,Heap.get?_update_self _ ho rfl,dQ ..⟩
  refine wpAny_bind (wpAny_holding ?_)
  refine wpAny_bind (wpAny_isOneOf_valiter hT' ?_)
  refine wpAny_bind (wpAny_isOneOf_valiter hT' ?_)
  show wpAny _ _ (pure e.val) _ _ _
  exact wpAny_pure (wpAny_pure ⟨_,rfl,h⟩)
theorem fi(hx:es[i]?=some e):Spec w L hd (.call (.builtin "dict_valueiterator.__next__") ⟨[.ref (y+937)],[]⟩) [(y+937,bR (x+937) i es.length ep),(x+937,ae es ep)] (X:=Unit) (λ_ _=>True) (λ_=>.ok (.ret e.val)) (λ_=>[(y+937,bR (x+937) (i+1) es.length ep),(x+937,ae es ep)]):=
 aq F.slot_dict_valueiterator_next F.entry_dict_valueiterator_next (F.args_dict_valueiterator_next_1 _) (lq w (y+937) (x+937) i ep es e hx) λA hp g d tk os hA hst hpre nd=>by
  have h:=hpre _ (.head _)
  have h2:=hpre _ (.tail _ (.head _))
  have hne:(x+937:Addr)≠y+937:=by
   intro e
   simp[e]at nd
  have hs:Heap.SameBut (y+937) hp (hp.update (y+937) (Obj.mapFields (·.setIfInBounds 1 (rawInt ((i:Int)+1))))):=Heap.SameBut.update ..
  refine⟨⟨_,h,dQ ..⟩,h,h2,(),_,tk,g,rfl,trivial,?_,?_,nd,?_,?_⟩
  ·intro p hp'
   rcases FY.mp hp' with rfl|hp'
   ·exact Heap.get?_update_self _ h rfl
   ·cases FW.mp hp'
    exact(hs.2 _ hne).trans h2
  ·exactλp hp'=>.inl (FP (f:=(·.1)) hp':p.1∈[(y+937,bR (x+937) (i+1) es.length ep),(x+937,ae es ep)].map (·.1))
  ·intro b o e hb
   simp only[FR,List.map_nil,FY,not_or]at hb
   exact a6 ((hs.2 b hb.1).trans e)
  ·exact Nat.le_of_eq hs.1.symm
theorem mW(w:World)(it d:Addr)(i ep:Nat)(es:List DictEntry)(hx:es[i]?=none):
  MeetsIn pw w (Builtin.«dict_valueiterator.__next__» ⟨[.ref it],[]⟩) (λA R s=>A.handled=none∧s.heap.get? it=some (bR d i es.length ep)∧s.heap.get? d=some (ae es ep)∧
   R (.error (.ref (s.heap.objs.size+1))) {s with heap:=((s.heap.update it (Obj.mapFields λf=>f.setIfInBounds 0 .none)).push {cls:=.type "tuple",data:=.seq #[]}).push {cls:=.type "StopIteration",data:=.fields #[.ref s.heap.objs.size,.none,.none,.none,.bool false,.none]}}):=
 .of_wp λA R s⟨hh,ho,hod,h⟩=>by
  have hT:s.TypeIs (.ref it) "dict_valueiterator":=⟨_,ho,dQ ..⟩
  have hx':(⟨es⟩:Array DictEntry)[i]?=none:=by simpa using hx
  refine wpAny_bind (wpAny_pure ?_)
  refine wpAny_bind ?_
  refine wpAny_bind ?_
  refine wpAny_bind (wpAny_typeNameOfWhole_valiter hT (wpAny_pure ?_))
  refine wpAny_bind (wpAny_fieldsOf ho rfl ?_)
  have hown:Builtin.Dict_items.ownsTuple "dict_valueiterator"=false:=by decide
  rw[hown,if_neg Bool.false_ne_true]
  show wpAny _ _ (if(Value.ref d==Value.none)=true then _ else _) _ _ s
  rw[if_neg (show¬((Value.ref d==Value.none)=true)from Bool.false_ne_true)]
  refine wpAny_bind (wpAny_pure ?_)
  refine wpAny_bind (wpAny_dictEntries (es:=⟨es⟩) hod rfl ?_)
  rw[if_neg (by simp)]
  refine wpAny_bind (wpAny_pure ?_)
  refine wpAny_bind (wpAny_dictEpoch (es:=⟨es⟩) hod rfl ?_)
  rw[if_neg (by simp)]
  refine wpAny_pure ?_
  dsimp only;rw[if_neg (show¬((i:Int)<0)from by lia),Int.toNat_natCast,hx']
  refine wpAny_bind ?_
  refine wpAny_bind (wpAny_typeNameOfWhole_valiter hT (wpAny_pure ?_))
  show wpAny _ _ (setField (.ref it) 0 .none>>=_) _ _ s
  refine wpAny_bind (wpAny_setField ho rfl (by simp) ?_)
  show wpAny _ _ (newExc (.type "StopIteration") []>>=_) _ _ _
  refine wpAny_bind ?_
  delta newExc newTuple
  refine wpAny_bind (wpAny_newObj_type ?_ (by size_fits))
  refine wpAny_bind (m:=firstArgMember _ _) (wpAny_of_eq (a:=Value.none) (by first|rfl|(simp only[firstArgMember];rfl)) ?_)
  refine wpAny_newObj_type ?_ (by size_fits)
  delta raiseNew
  refine wpAny_bind (wpAny_handled ?_)
  rw[show A.in1.handled=none from hh]
  refine wpAny_bind (wpAny_pure (wpAny_throw ?_))
  have e1:(s.heap.update it (Obj.mapFields λf=>f.setIfInBounds 0 .none)).objs.size=s.heap.objs.size:=(Heap.SameBut.update ..).1
  simp only[Heap.size_push,e1]
  exact h
theorem tE(hx:es[i]?=none):Spec w L none (.call (.builtin "dict_valueiterator.__next__") ⟨[.ref (y+937)],[]⟩) [(y+937,bR (x+937) i es.length ep),(x+937,ae es ep)] (X:=Nat) (λ_ _=>True) (λn=>.error (.ref (n+938))) (λn=>[(y+937,d9 i es.length ep),(x+937,ae es ep)]++[(n+937,aW []),(n+938,b8 (n+937))]):=
 aq F.slot_dict_valueiterator_next F.entry_dict_valueiterator_next (F.args_dict_valueiterator_next_1 _) (mW w (y+937) (x+937) i ep es hx) λA hp g d tk os hA hst hpre nd=>by
  have h:=hpre _ (.head _)
  have h2:=hpre _ (.tail _ (.head _))
  have hne:(x+937:Addr)≠y+937:=by
   intro e
   simp[e]at nd
  exact⟨⟨_,h,dQ ..⟩,hA,h,h2,jk (y:=y) (x:=x) (f:=Obj.mapFields λf=>f.setIfInBounds 0 .none) hst h h2 hne rfl⟩
end
noncomputable abbrev aT(d:Addr)(i n ep:Nat):Obj:=⟨.type SL.s6459443594175803420x16,none,.fields ⟨[.ref d,.int i 0,.int n 0,.int ep 0]⟩,⟨[]⟩⟩
noncomputable abbrev mF(i n ep:Nat):Obj:=⟨.type SL.s6459443594175803420x16,none,.fields ⟨[.none,.int i 0,.int n 0,.int ep 0]⟩,⟨[]⟩⟩
theorem dO(d:Addr)(i n ep:Nat):(aT d i n ep).cls=.type "dict_keyiterator":=by kernel_rfl
section
variable{w:World}{L:Nat}{hd:Option Value}{x y i ep:Nat}{es:List DictEntry}{e:DictEntry}
theorem lp(w:World)(it d:Addr)(i ep:Nat)(es:List DictEntry)(e:DictEntry)(hx:es[i]?=some e):
  MeetsIn pw w (Builtin.«dict_keyiterator.__next__» ⟨[.ref it],[]⟩) (λ_ R s=>s.heap.get? it=some (aT d i es.length ep)∧s.heap.get? d=some (ae es ep)∧R (.ok (.ret e.key)) {s with heap:=s.heap.update it (Obj.mapFields (·.setIfInBounds 1 (rawInt ((i:Int)+1))))}):=
 .of_wp λA R s⟨ho,hod,h⟩=>by
  have hT:s.TypeIs (.ref it) "dict_keyiterator":=⟨_,ho,dO ..⟩
  have hlt:i<es.length:=(List.getElem?_eq_some_iff.mp hx).1
  have hx':(⟨es⟩:Array DictEntry)[i]?=some e:=by simpa using hx
  refine wpAny_bind (wpAny_pure ?_)
  refine wpAny_bind ?_
  refine wpAny_bind ?_
  refine wpAny_bind (wpAny_typeNameOfWhole_keyiter hT (wpAny_pure ?_))
  refine wpAny_bind (wpAny_fieldsOf ho rfl ?_)
  have hown:Builtin.Dict_items.ownsTuple "dict_keyiterator"=false:=by decide
  rw[hown,if_neg Bool.false_ne_true]
  show wpAny _ _ (if(Value.ref d==Value.none)=true then _ else _) _ _ s
  rw[if_neg (show¬((Value.ref d==Value.none)=true)from Bool.false_ne_true)]
  refine wpAny_bind (wpAny_pure ?_)
  refine wpAny_bind (wpAny_dictEntries (es:=⟨es⟩) hod rfl ?_)
  rw[if_neg (by simp)]
  refine wpAny_bind (wpAny_pure ?_)
  refine wpAny_bind (wpAny_dictEpoch (es:=⟨es⟩) hod rfl ?_)
  rw[if_neg (by simp)]
  refine wpAny_pure ?_
  dsimp only;rw[if_neg (show¬((i:Int)<0)from by lia),Int.toNat_natCast,hx']
  refine wpAny_bind ?_
  refine wpAny_bind (wpAny_typeNameOfWhole_keyiter hT (wpAny_pure ?_))
  refine wpAny_bind (wpAny_isOneOf_keyiter hT ?_)
  show wpAny _ _ (setField (.ref it) 1 (rawInt ((i:Int)+1))>>=_) _ _ s
  refine wpAny_bind (wpAny_setField ho rfl (by simp) ?_)
  have hT':Shared.TypeIs {s with heap:=s.heap.update it (Obj.mapFields (·.setIfInBounds 1 (rawInt ((i:Int)+1))))} (.ref it) "dict_keyiterator":=⟨_,Heap.get?_update_self _ ho rfl,dO ..⟩
  refine wpAny_bind (wpAny_holding ?_)
  refine wpAny_bind (wpAny_isOneOf_keyiter hT' ?_)
  show wpAny _ _ (pure e.key) _ _ _
  exact wpAny_pure (wpAny_pure ⟨_,rfl,h⟩)
theorem im(hx:es[i]?=some e):Spec w L hd (.call (.builtin "dict_keyiterator.__next__") ⟨[.ref (y+937)],[]⟩) [(y+937,aT (x+937) i es.length ep),(x+937,ae es ep)] (X:=Unit) (λ_ _=>True) (λ_=>.ok (.ret e.key)) (λ_=>[(y+937,aT (x+937) (i+1) es.length ep),(x+937,ae es ep)]):=
 aq F.slot_dict_keyiterator_next F.entry_dict_keyiterator_next (F.args_dict_keyiterator_next_1 _) (lp w (y+937) (x+937) i ep es e hx) λA hp g d tk os hA hst hpre nd=>by
  have h:=hpre _ (.head _)
  have h2:=hpre _ (.tail _ (.head _))
  have hne:(x+937:Addr)≠y+937:=by
   intro e
   simp[e]at nd
  have hs:Heap.SameBut (y+937) hp (hp.update (y+937) (Obj.mapFields (·.setIfInBounds 1 (rawInt ((i:Int)+1))))):=Heap.SameBut.update ..
  refine⟨⟨_,h,dO ..⟩,h,h2,(),_,tk,g,rfl,trivial,?_,?_,nd,?_,?_⟩
  ·intro p hp'
   rcases FY.mp hp' with rfl|hp'
   ·exact Heap.get?_update_self _ h rfl
   ·cases FW.mp hp'
    exact(hs.2 _ hne).trans h2
  ·exactλp hp'=>.inl (FP (f:=(·.1)) hp':p.1∈[(y+937,aT (x+937) (i+1) es.length ep),(x+937,ae es ep)].map (·.1))
  ·intro b o e hb
   simp only[FR,List.map_nil,FY,not_or]at hb
   exact a6 ((hs.2 b hb.1).trans e)
  ·exact Nat.le_of_eq hs.1.symm
theorem mV(w:World)(it d:Addr)(i ep:Nat)(es:List DictEntry)(hx:es[i]?=none):
  MeetsIn pw w (Builtin.«dict_keyiterator.__next__» ⟨[.ref it],[]⟩) (λA R s=>A.handled=none∧s.heap.get? it=some (aT d i es.length ep)∧s.heap.get? d=some (ae es ep)∧
   R (.error (.ref (s.heap.objs.size+1))) {s with heap:=((s.heap.update it (Obj.mapFields λf=>f.setIfInBounds 0 .none)).push {cls:=.type "tuple",data:=.seq #[]}).push {cls:=.type "StopIteration",data:=.fields #[.ref s.heap.objs.size,.none,.none,.none,.bool false,.none]}}):=
 .of_wp λA R s⟨hh,ho,hod,h⟩=>by
  have hT:s.TypeIs (.ref it) "dict_keyiterator":=⟨_,ho,dO ..⟩
  have hx':(⟨es⟩:Array DictEntry)[i]?=none:=by simpa using hx
  refine wpAny_bind (wpAny_pure ?_)
  refine wpAny_bind ?_
  refine wpAny_bind ?_
  refine wpAny_bind (wpAny_typeNameOfWhole_keyiter hT (wpAny_pure ?_))
  refine wpAny_bind (wpAny_fieldsOf ho rfl ?_)
  have hown:Builtin.Dict_items.ownsTuple "dict_keyiterator"=false:=by decide
  rw[hown,if_neg Bool.false_ne_true]
  show wpAny _ _ (if(Value.ref d==Value.none)=true then _ else _) _ _ s
  rw[if_neg (show¬((Value.ref d==Value.none)=true)from Bool.false_ne_true)]
  refine wpAny_bind (wpAny_pure ?_)
  refine wpAny_bind (wpAny_dictEntries (es:=⟨es⟩) hod rfl ?_)
  rw[if_neg (by simp)]
  refine wpAny_bind (wpAny_pure ?_)
  refine wpAny_bind (wpAny_dictEpoch (es:=⟨es⟩) hod rfl ?_)
  rw[if_neg (by simp)]
  refine wpAny_pure ?_
  dsimp only;rw[if_neg (show¬((i:Int)<0)from by lia),Int.toNat_natCast,hx']
  refine wpAny_bind ?_
  refine wpAny_bind (wpAny_typeNameOfWhole_keyiter hT (wpAny_pure ?_))
  show wpAny _ _ (setField (.ref it) 0 .none>>=_) _ _ s
  refine wpAny_bind (wpAny_setField ho rfl (by simp) ?_)
  show wpAny _ _ (newExc (.type "StopIteration") []>>=_) _ _ _
  refine wpAny_bind ?_
  delta newExc newTuple
  refine wpAny_bind (wpAny_newObj_type ?_ (by size_fits))
  refine wpAny_bind (m:=firstArgMember _ _) (wpAny_of_eq (a:=Value.none) (by first|rfl|(simp only[firstArgMember];rfl)) ?_)
  refine wpAny_newObj_type ?_ (by size_fits)
  delta raiseNew
  refine wpAny_bind (wpAny_handled ?_)
  rw[show A.in1.handled=none from hh]
  refine wpAny_bind (wpAny_pure (wpAny_throw ?_))
  have e1:(s.heap.update it (Obj.mapFields λf=>f.setIfInBounds 0 .none)).objs.size=s.heap.objs.size:=(Heap.SameBut.update ..).1
  simp only[Heap.size_push,e1]
  exact h
theorem pA(hx:es[i]?=none):Spec w L none (.call (.builtin "dict_keyiterator.__next__") ⟨[.ref (y+937)],[]⟩) [(y+937,aT (x+937) i es.length ep),(x+937,ae es ep)] (X:=Nat) (λ_ _=>True) (λn=>.error (.ref (n+938))) (λn=>[(y+937,mF i es.length ep),(x+937,ae es ep)]++[(n+937,aW []),(n+938,b8 (n+937))]):=
 aq F.slot_dict_keyiterator_next F.entry_dict_keyiterator_next (F.args_dict_keyiterator_next_1 _) (mV w (y+937) (x+937) i ep es hx) λA hp g d tk os hA hst hpre nd=>by
  have h:=hpre _ (.head _)
  have h2:=hpre _ (.tail _ (.head _))
  have hne:(x+937:Addr)≠y+937:=by
   intro e
   simp[e]at nd
  exact⟨⟨_,h,dO ..⟩,hA,h,h2,jk (y:=y) (x:=x) (f:=Obj.mapFields λf=>f.setIfInBounds 0 .none) hst h h2 hne rfl⟩
end
end
noncomputable abbrev SV:=Str×Tok
noncomputable abbrev sv(p:SV):Value:=.str p.1 p.2
structure Nd where
 S:Str
 a:Nat
 d:Nat
 l:Nat
 t:Tok
 t':Tok
 n:Int
 ss:List SV
 ep:Nat
noncomputable def Nd.info(v:Nd):Addr×Obj:=(v.a+937,eg (v.d+937) v.S v.t v.n v.t' (v.l+937))
noncomputable def Nd.lst(v:Nd):Addr×Obj:=(v.l+937,aa (v.ss.map sv) v.ep)
noncomputable def GO(G:List Nd):ah:=G.flatMap λv=>[v.info,v.lst]
noncomputable def aH(G:List Nd):List (Str×Value):=G.map λv=>(v.S,Value.ref (v.a+937))
noncomputable abbrev AN:=Str×Int×List Str
noncomputable def Nd.abs(v:Nd):AN:=(v.S,v.n,v.ss.map (·.1))
noncomputable def ao(G:List Nd):List AN:=G.map Nd.abs
theorem bt(G H:List Nd):aH (G++H)=aH G++aH H:=FM
theorem iw(v:Nd)(H:List Nd):aH (v::H)=(v.S,Value.ref (v.a+937))::aH H:=rfl
theorem bh(G H:List Nd):ao (G++H)=ao G++ao H:=FM
theorem bM(v:Nd)(H:List Nd):ao (v::H)=v.abs::ao H:=rfl
theorem cR(G H:List Nd):GO (G++H)=GO G++GO H:=List.flatMap_append
theorem cB(v:Nd)(H:List Nd):GO (v::H)=v.info::v.lst::GO H:=rfl
theorem dH(G:List Nd):(aH G).map (·.1)=(ao G).map (·.1):=by
 unfold aH ao
 rw[List.map_map,List.map_map]
 rfl
theorem dv(G₁:List Nd)(v:Nd)(G₂:List Nd):(GO (G₁++v::G₂)).Perm ([v.info]++(GO G₁++v.lst::GO G₂)):=by
 rw[cR,cB]
 exact List.perm_middle
theorem vX(G₁:List Nd)(v:Nd)(G₂:List Nd):(GO (G₁++v::G₂)).Perm ([v.lst]++(GO G₁++v.info::GO G₂)):=by
 rw[cR,cB]
 exact(List.Perm.append_left _ (List.Perm.swap _ _ _)).trans List.perm_middle
theorem jM(G₁:List Nd)(v:Nd)(G₂:List Nd):(GO (G₁++v::G₂)).Perm ([v.info,v.lst]++GO (G₁++G₂)):=by
 rw[cR,cR,cB]
 exact(List.perm_middle.trans (List.Perm.cons _ List.perm_middle))
theorem eY{G:List Nd}{S:Str}(h:S∈(ao G).map (·.1)):∃G₁ v G₂,G=G₁++v::G₂∧v.S=S:=by
 unfold ao at h
 rw[List.map_map]at h
 obtain⟨v,hv,e⟩:=FX.mp h
 obtain⟨G₁,G₂,e'⟩:=List.append_of_mem hv
 exact⟨G₁,v,G₂,e',e⟩
theorem e6{G₁ G₂:List Nd}{v:Nd}(h:((aH (G₁++v::G₂)).map (·.1)).Nodup):valueAt (aH (G₁++v::G₂)) v.S=some (.ref (v.a+937)):=by
 rw[bt,iw,FM,FR]at h
 have h1:=(List.nodup_append.mp h).2.2
 unfold valueAt
 rw[bt,iw,List.find?_append]
 have:(aH G₁).find? (λkv=>decide (kv.1=v.S))=none:=by
  rw[List.find?_eq_none]
  intro p hp e
  exact h1 p.1 (FP hp) v.S (.head _) (of_decide_eq_true e)
 rw[this]
 simp
theorem fG{G:List Nd}{S:Str}(h:S∉(ao G).map (·.1)):valueAt (aH G) S=none:=by
 unfold valueAt
 rw[←dH]at h
 have:(aH G).find? (λkv=>decide (kv.1=S))=none:=by
  rw[List.find?_eq_none]
  intro p hp e
  exact h (by rw[←of_decide_eq_true e];exact FP hp)
 rw[this]
 rfl
theorem cp{G:List Nd}{S:Str}(h:S∉(ao G).map (·.1))(v:Value):stored (aH G) S v=aH G++[(S,v)]:=by
 unfold stored
 rw[←dH]at h
 rw[if_neg]
 intro e
 obtain⟨p,hp,e⟩:=List.any_eq_true.mp e
 exact h (by rw[←of_decide_eq_true e];exact FP hp)
noncomputable def bk(f:AN→AN)(s:Str)(A:List AN):List AN:=A.map λx=>if x.1=s then f x else x
noncomputable def aS(A:List AN)(s:Str):Int:=((A.find? (·.1=s)).map (·.2.1)).getD 0
noncomputable def gR(x:AN):AN:=(x.1,x.2.1-1,x.2.2)
noncomputable def cj(Ar:List AN×List Str)(s:Str):List AN×List Str:=(bk gR s Ar.1,if aS Ar.1 s-1=0 then Ar.2++[s]else Ar.2)
theorem k0{f:AN→AN}{s:Str}{A:List AN}(h:s∉A.map (·.1)):bk f s A=A:=by
 unfold bk
 refine(List.map_congr_left λx hx=>?_).trans (List.map_id' A)
 rw[if_neg]
 exactλe=>h (by rw[←e];exact FP hx)
theorem gb{G₁ G₂:List Nd}{v:Nd}(h:((aH (G₁++v::G₂)).map (·.1)).Nodup):v.S∉(ao G₁).map (·.1)∧v.S∉(ao G₂).map (·.1):=by
 rw[dH,bh,bM,FM,FR]at h
 obtain⟨_,h2,h3⟩:=List.nodup_append.mp h
 exact⟨λhm=>h3 _ hm v.S (.head _) rfl,(List.nodup_cons.mp h2).1⟩
theorem nJ{f:AN→AN}{G₁ G₂:List Nd}{v:Nd}(h:((aH (G₁++v::G₂)).map (·.1)).Nodup):bk f v.S (ao (G₁++v::G₂))=ao G₁++f v.abs::ao G₂:=by
 obtain⟨h1,h2⟩:=gb h
 rw[bh,bM]
 show(ao G₁++v.abs::ao G₂).map _=_
 rw[FM,FR]
 have e1:=k0 (f:=f) h1
 have e2:=k0 (f:=f) h2
 unfold bk at e1 e2
 rw[e1,e2,if_pos (show v.abs.1=v.S from rfl)]
theorem n0{G₁ G₂:List Nd}{v:Nd}(h:((aH (G₁++v::G₂)).map (·.1)).Nodup):aS (ao (G₁++v::G₂)) v.S=v.n:=by
 obtain⟨h1,h2⟩:=gb h
 unfold aS
 rw[bh,bM,List.find?_append]
 have:(ao G₁).find? (λx=>decide (x.1=v.S))=none:=by
  rw[List.find?_eq_none]
  exactλx hx e=>h1 (by rw[←of_decide_eq_true e];exact FP hx)
 rw[this,List.find?_cons]
 have:decide (v.abs.1=v.S)=true:=decide_eq_true rfl
 rw[this]
 rfl
theorem ms{G:List Nd}{L:Addr×Obj}(h:L∈G.map Nd.lst):∃fr,(GO G).Perm ([L]++fr):=by
 obtain⟨v,hv,rfl⟩:=FX.mp h
 obtain⟨G₁,G₂,rfl⟩:=List.append_of_mem hv
 exact⟨_,vX G₁ v G₂⟩
theorem dV{G G':List Nd}(h:aH G'=aH G):(ao G').map (·.1)=(ao G).map (·.1):=by rw[←dH,←dH,h]
theorem gv{G₁ G₂:List Nd}{v:Nd}{s:Str}(h:((aH (G₁++v::G₂)).map (·.1)).Nodup)(e:v.S=s)(t:Tok)(r:List Str):
  cj (ao (G₁++v::G₂),r) s=(ao (G₁++{v with n:=v.n-1,t':=t}::G₂),if v.n-1=0 then r++[s]else r):=by
 subst e
 unfold cj
 rw[nJ h,n0 h,bh,bh,bM,bM]
 rfl
section
open AutoSeq1 (wpAny_loadPart')
theorem jJ(l:Addr)(items:Array Value)(n:Nat)(i:Int)(u:Tok)(k:Nat)(y:Value)(hfit:Builtin.List.listFitsIndex i=true)(hk:seqIndex? i items.size=some k)(hy:items[k]?=some y):
  Meets (Builtin.«list.__getitem__» ⟨[.ref l,.int i u],[]⟩)
   (λ_ R s=>s.heap.get? l=some {cls:=.type "list",dict:=none,data:=.seq items n,slots:=#[]}∧R (.ok (.ret y)) s):=
 .of_wp λprog w A R s h=>by
  obtain⟨hp,g,d,tk,os⟩:=s;obtain⟨hl,h⟩:=h
  have f1:=AutoSeq1.idx_int
  have hf:¬(!Builtin.List.listFitsIndex i)=true:=by simp[hfit]
  wp_walk using wpAny_loadPart' hl
  cases i with
  |ofNat m =>
   dsimp only
   refine wpAny_bind (wpAny_seqItemAt hl rfl ?_)
   have hm:m=k:=by
    unfold seqIndex? at hk
    simp only[Int.ofNat_eq_natCast]at hk
    split at hk
    ·lia
    ·split at hk<;>simp at hk
     lia
   subst hm
   rw[hy]
   exact wpAny_pure (wpAny_pure ⟨_,rfl,h⟩)
  |negSucc m =>
   dsimp only
   unfold Builtin.List.listItems
   refine wpAny_bind (wpAny_bind (wpAny_seqItems hl rfl (wpAny_pure ?_)))
   simp only[hk,hy,Option.bind_some,Option.map_some]
   exact wpAny_pure (wpAny_pure ⟨_,rfl,h⟩)
section
variable{w:World}{L:Nat}{hd:Option Value}{x ep:Nat}{vs:List Value}{v:Value}
theorem dI{i:Int}{u:Tok}{k:Nat}(hfit:Builtin.List.listFitsIndex i=true)(hk:seqIndex? i vs.length=some k)(hy:vs[k]?=some v):Spec w L hd (.call (.builtin "list.__getitem__") ⟨[.ref (x+937),.int i u],[]⟩) [(x+937,aa vs ep)] (X:=Unit) (λ_ _=>True) (λ_=>.ok (.ret v)) (λ_=>[(x+937,aa vs ep)]):=
 aq F.slot_list_getitem F.entry_list_getitem (F.args_list_getitem_2 _ _) ((jJ (x+937) ⟨vs⟩ ep i u k v hfit (by simpa using hk) (by simpa using hy)).inModel pw w) λA hp g d tk os hA hst hpre nd=>by
  have h:=hpre _ (.head _)
  have h':=h
  rw[be]at h'
  exact⟨⟨_,h',rfl⟩,h',cz () rfl trivial rfl hpre nd⟩
theorem xg(vs:List Value)(v:Value)(e:Nat):∃e',Obj.mapSeq (λxs=>xs.eraseIdxIfInBounds ((⟨vs++[v]⟩:Array Value).size-1)) (aa (vs++[v]) e)=aa vs e':=by
 have hv:(⟨vs++[v]⟩:Array Value).eraseIdxIfInBounds ((⟨vs++[v]⟩:Array Value).size-1)=⟨vs⟩:=by
  apply Array.ext'
  rw[Array.toList_eraseIdxIfInBounds]
  simp[List.eraseIdx_append_of_length_le]
 refine⟨if(((⟨vs⟩:Array Value)).size==(⟨vs++[v]⟩:Array Value).size)=true then e else e+1,?_⟩
 show(⟨_,none,.seq ((⟨vs++[v]⟩:Array Value).eraseIdxIfInBounds _) _,_⟩:Obj)=_
 simp only[hv]
theorem oz(hz:vs.length<sizeLine):Spec w L hd (.call (.builtin "list.pop") ⟨[.ref (x+937)],[]⟩) [(x+937,aa (vs++[v]) ep)] (X:=Nat) (λ_ _=>True) (λ_=>.ok (.ret v)) (λe=>[(x+937,aa vs e)]):=
 aq F.slot_list_pop F.entry_list_pop (F.args_list_pop_1 _) ((MeetsSeq.list_pop_last (x+937) ⟨vs++[v]⟩ ep v (by simp) (by simp;lia)).inModel pw w) λA hp g d tk os hA hst hpre nd=>by
  have h:=hpre _ (.head _)
  have h':=h
  rw[be]at h'
  obtain⟨e',he⟩:=xg vs v ep
  exact⟨⟨_,h',rfl⟩,h',jm (f:=Obj.mapSeq λxs=>xs.eraseIdxIfInBounds ((⟨vs++[v]⟩:Array Value).size-1)) e' rfl trivial h rfl (by rw[he])⟩
end
section
variable{w:World}{K:Type}[DecidableEq K]{knd:KeyKind pw w K}{es:List DictEntry}{aH:List (K×Value)}{L:Nat}{hd:Option Value}{x ep:Nat}{k:K}{key:Value}
theorem n6{hp h':Heap}{o:Obj}{d:Addr}{kv:List (K×Value)}(hd':h'.DictOf knd d kv):∃es' ep',h'.get? d=some (ae es' ep')∧KV knd es' kv:=by
 obtain⟨o,es',ep',ho,hx,hda,hk',hp',hn'⟩:=hd'
 obtain⟨es'⟩:=es'
 have ho':o=ae es' ep':=by
  obtain⟨c,di,dt,sl⟩:=o
  obtain⟨h1,h2,h3⟩:=hx
  cases h1;cases h2;cases h3;cases hda
  have:(ae es' ep').cls=.type "dict":=by kernel_rfl
  show _=(⟨(ae es' ep').cls,none,.dict ⟨es'⟩ ep',#[]⟩:Obj)
  rw[this]
 exact⟨es',ep',ho'▸ho,hk',hp',hn'⟩
theorem tC(h:KV knd es aH)(hk:knd.is k key=true)(hl:aH.length≤sizeLine)(hv:(valueAt aH k).isSome=true):Spec w L hd (.call (.builtin "dict.__delitem__") ⟨[.ref (x+937),key],[]⟩) [(x+937,ae es ep)] (X:=List DictEntry×Nat) (λ_ y=>KV knd y.1 (without aH k)) (λ_=>.ok (.ret .none)) (λy=>[(x+937,ae y.1 y.2)]):=
 aq F.slot_dict_delitem F.entry_dict_delitem (F.args_dict_delitem_2 _ _) (meets_dict_delitem_pairs knd (x+937) hk) λA hp g d tk os hA hst hpre nd=>
  have hd:=h.dictOf (ep:=ep) hpre
  ⟨hd.mapOf.typeIs,aH,hd,hl,hv,λh' hd' hs=>by
   obtain⟨es',ep',ho,hkv⟩:=n6 (hp:=hp) (o:=ae es ep) hd'
   refine⟨(es',ep'),h',tk+1,g,rfl,hkv,?_,λp h=>.inl (by simpa using FP (f:=(·.1)) h),by simp,?_,?_⟩
   ·intro p hp
    cases FW.mp hp
    exact ho
   ·intro b o e hb
    simp only[FR,List.map_nil,FW]at hb
    exact a6 ((hs.2 b hb).trans e)
   ·exact Nat.le_of_eq hs.1.symm⟩
end
end
section
noncomputable abbrev bL(sd:Data):Obj:=⟨.type SL.s3642769012341782148x3,none,sd,⟨[]⟩⟩
noncomputable def cq(w:World)(sd:Data)(S:Str→Bool)(n:Nat):Prop:=∃es ep t,sd=.set es ep t∧ElemsOf (SK w) es.toList∧(∀k,S k=true↔∃e∈es.toList,(SK w).is k e.2=true)∧es.size<scanBound∧t.fits es.size=true∧es.size=n
section
variable{w:World}{L:Nat}{hd:Option Value}{x n:Nat}{sd:Data}{S:Str→Bool}{k:Str}{t:Tok}
theorem oZ(sd:Data):(bL sd).cls=.type "set":=by kernel_rfl
theorem cq.setOf(h:cq w sd S n){hp:Heap}{a:Addr}(hh:hp.get? a=some (bL sd)):hp.SetOf (SK w) a S n:=by
 obtain⟨es,ep,t,rfl,r⟩:=h
 exact⟨_,es,ep,t,hh,⟨oZ _,rfl,rfl⟩,rfl,r⟩
theorem p9{h':Heap}{a:Addr}(hd':h'.SetOf (SK w) a S n):∃sd',h'.get? a=some (bL sd')∧cq w sd' S n:=by
 obtain⟨o,es,ep,t,ho,hx,hda,r⟩:=hd'
 refine⟨o.data,?_,es,ep,t,hda,r⟩
 have ho':o=bL o.data:=by
  obtain⟨c,di,dt,sl⟩:=o
  obtain⟨h1,h2,h3⟩:=hx
  cases h1;cases h2;cases h3
  show _=(⟨(bL dt).cls,none,dt,#[]⟩:Obj)
  rw[oZ]
 rw[←ho']
 exact ho
theorem gX(a:Addr)(hkey:(SK w).is k (.str k t)=true)(hsc:(Value.str k t).scannable=true):
  MeetsIn pw w (Builtin.«frozenset.__contains__» ⟨[.ref a,.str k t],[]⟩) (λ_ R s=>s.heap.SetOf (SK w) a S n∧R (.ok (.ret (.bool (S k)))) {s with toks:=s.toks+1}):=
 .of_wp λA R s⟨hS,h⟩=>by
  unfold Builtin.«frozenset.__contains__» Builtin.Frozenset.oneOther
  simp only[List.isEmpty_nil,bind_assoc]
  unfold Builtin.Frozenset.addrOf Builtin.Frozenset.withSetAsKey setContains
  refine wpAny_bind (wpAny_pure ?_)
  try dsimp only
  refine wpAny_bind (wpAny_pure ?_)
  try dsimp only
  refine wpAny_bind (wpAny_tryCatch ?_)
  refine wpAny_holding ?_
  refine wpAny_bind ((SK w).pyHash hkey ?_)
  refine wpAny_bind (wpAny_setFind_of (s:={s with toks:=s.toks+1}) hkey hsc hS λr hr=>?_)
  refine wpAny_pure ?_
  show wpAny _ _ (ret (Value.bool r.isSome)) _ _ _
  rw[hr]
  exact wpAny_pure ⟨_,rfl,h⟩
theorem lu(a:Addr)(hkey:(SK w).is k (.str k t)=true)(hsc:(Value.str k t).scannable=true)(hroom:n+1<scanBound):
  MeetsIn pw w (Builtin.«set.add» ⟨[.ref a,.str k t],[]⟩) (λ_ R s=>s.heap.SetOf (SK w) a S n∧∀h',Heap.SameBut a s.heap h'→h'.SetOf (SK w) a (λk'=>S k'||decide (k'=k)) (if S k then n else n+1)→R (.ok (.ret .none)) {s with heap:=h',toks:=s.toks+1}):=
 .of_wp λA R s⟨hS,h⟩=>by
  unfold Builtin.«set.add» Builtin.Frozenset.oneOther
  simp only[List.isEmpty_nil,bind_assoc]
  unfold Builtin.Frozenset.addrOf setAdd
  refine wpAny_bind (wpAny_pure ?_)
  try dsimp only
  refine wpAny_bind (wpAny_pure ?_)
  try dsimp only
  refine wpAny_bind ?_
  refine wpAny_holding ?_
  refine wpAny_bind ((SK w).pyHash hkey ?_)
  refine wpAny_setAddHashed_of (s:={s with toks:=s.toks+1}) hkey hsc hS hroom λh' hsb hS'=>?_
  show wpAny _ _ (ret Value.none) _ _ _
  exact wpAny_pure ⟨_,rfl,h h' hsb hS'⟩
theorem nz(h:cq w sd S n):Spec w L hd (.call (.builtin "set.__contains__") ⟨[.ref (x+937),.str k t],[]⟩) [(x+937,bL sd)] (X:=Unit) (λ_ _=>True) (λ_=>.ok (.ret (.bool (S k)))) (λ_=>[(x+937,bL sd)]):=
 aq F.slot_set_contains entry_set_contains (F.args_set_contains_2 _ _) (gX (n:=n) (x+937) (bw k t) rfl) λA hp g d tk os hA hst hpre nd=>
  have hs:=h.setOf (hpre _ (.head _))
  ⟨hs.typeIs,hs,cz () rfl trivial rfl hpre nd⟩
theorem rm(h:cq w sd S n)(hroom:n+1<scanBound):Spec w L hd (.call (.builtin "set.add") ⟨[.ref (x+937),.str k t],[]⟩) [(x+937,bL sd)] (X:=Data) (λ_ y=>cq w y (λk'=>S k'||decide (k'=k)) (if S k then n else n+1)) (λ_=>.ok (.ret .none)) (λy=>[(x+937,bL y)]):=
 aq F.slot_set_add F.entry_set_add (F.args_set_add_2 _ _) (lu (n:=n) (x+937) (bw k t) rfl hroom) λA hp g d tk os hA hst hpre nd=>
  have hs:=h.setOf (hpre _ (.head _))
  ⟨hs.typeIs,hs,λh' hsb hS'=>by
   obtain⟨sd',ho,hin⟩:=p9 hS'
   refine⟨sd',h',tk+1,g,rfl,hin,?_,λp h=>.inl (by simpa using FP (f:=(·.1)) h),by simp,?_,?_⟩
   ·intro p hp
    cases FW.mp hp
    exact ho
   ·intro b o e hb
    simp only[FR,List.map_nil,FW]at hb
    exact a6 ((hsb.2 b hb).trans e)
   ·exact Nat.le_of_eq hsb.1.symm⟩
end
end
theorem iJ{w:World}{L:Nat}{hd:Option Value}{pre:ah}{X:Type}{C:Nat→X→Prop}{r:X→Result}{post:X→ah}{T:String}{name:Str}{id:String}{B:Builtin}{self:Value}{rest:List Value}{S:PySem.Spec}
  (slot:Slot T name id) (entry:entryFor table id=some B) (g:MeetsIn pw w (B ⟨self::rest,[]⟩) S)
  (h:∀(A:Around)(hp:Heap)(g:GB)(d:Drawn)(tk:Nat)(os:OsState),A.handled=hd→cb w hp→k8 hp pre→(pre.map (·.1)).Nodup→S A (bj d os hp hp.objs.size (md (pre.map (·.1))) C r post) ⟨hp,g,d,tk,os⟩):
  Spec w L hd (.builtin id ⟨self::rest,[]⟩) pre C r post:=
 gB slot.plain entry λA hp g' d tk os Z hst hpre nd=>g A _ _ (h A hp g' d tk os Z.h hst hpre nd)
theorem ow{w:World}{L:Nat}{hd:Option Value}{y x i ep:Nat}{vs:List Value}{v:Value}(hx:vs[i]?=some v):Spec w L hd (.builtin "list_iterator.__next__" ⟨[.ref (y+937)],[]⟩) [(y+937,ai (x+937) i),(x+937,aa vs ep)] (X:=Unit) (λ_ _=>True) (λ_=>.ok (.ret v)) (λ_=>[(y+937,ai (x+937) (i+1)),(x+937,aa vs ep)]):=
 iJ slot_listiter_next entry_listiter_next (dp w (y+937) (x+937) i ep vs v hx) λA hp g d tk os hA hst hpre nd=>by
  have h:=hpre _ (.head _)
  have h2:=hpre _ (.tail _ (.head _))
  have hne:(x+937:Addr)≠y+937:=by
   intro e
   simp[e]at nd
  have hs:Heap.SameBut (y+937) hp (hp.update (y+937) (Obj.mapFields λf=>f.setIfInBounds 1 (rawInt (i+1)))):=Heap.SameBut.update ..
  refine⟨h,h2,(),_,tk,g,rfl,trivial,?_,?_,nd,?_,?_⟩
  ·intro p hp'
   rcases FY.mp hp' with rfl|hp'
   ·exact Heap.get?_update_self _ h rfl
   ·cases FW.mp hp'
    exact(hs.2 _ hne).trans h2
  ·exactλp hp'=>.inl (FP (f:=(·.1)) hp':p.1∈[(y+937,ai (x+937) (i+1)),(x+937,aa vs ep)].map (·.1))
  ·intro b o e hb
   simp only[FR,List.map_nil,FY,not_or]at hb
   exact a6 ((hs.2 b hb.1).trans e)
  ·exact Nat.le_of_eq hs.1.symm
theorem pL{w:World}{L:Nat}{y x i ep:Nat}{vs:List Value}(hx:vs[i]?=none):Spec w L none (.builtin "list_iterator.__next__" ⟨[.ref (y+937)],[]⟩) [(y+937,ai (x+937) i),(x+937,aa vs ep)] (X:=Nat) (λ_ _=>True) (λn=>.error (.ref (n+938))) (λn=>[(y+937,av i),(x+937,aa vs ep)]++[(n+937,aW []),(n+938,b8 (n+937))]):=
 iJ slot_listiter_next entry_listiter_next (dU w (y+937) (x+937) i ep vs hx) λA hp g d tk os hA hst hpre nd=>by
  have h:=hpre _ (.head _)
  have h2:=hpre _ (.tail _ (.head _))
  have hne:(x+937:Addr)≠y+937:=by
   intro e
   simp[e]at nd
  exact⟨hA,h,h2,jk (y:=y) (x:=x) (f:=Obj.mapFields λf=>f.setIfInBounds 0 .none) hst h h2 hne rfl⟩
noncomputable abbrev jL(y:Addr):Obj:=⟨.type "method-wrapper",none,.fields ⟨[.builtin "list_iterator.__next__",.ref y]⟩,⟨[]⟩⟩
theorem wX{w:World}{L:Nat}{m y x i ep:Nat}{vs:List Value}{v:Value}(hx:vs[i]?=some v):Spec w L none (.call (.ref (m+937)) ⟨[],[]⟩) ([(m+937,jL (y+937)),(y+937,ai (x+937) i)]++[(x+937,aa vs ep)]) (X:=Unit) (λ_ _=>True) (λ_=>.ok (.ret v)) (λ_=>[(m+937,jL (y+937)),(y+937,ai (x+937) (i+1))]++[]++[(x+937,aa vs ep)]):=by
 refine aA _ _ λA R d os hb m0 g tk b Z F E=>?_
 refine ax F E Z 1 1 [(m+937,jL (y+937)),(y+937,ai (x+937) i)] [(x+937,aa vs ep)] [] (((ow (x:=x) (y:=y) (ep:=ep) hx).frame [(m+937,jL (y+937))]).convP (Nat.le_refl _) (List.perm_append_comm (l₁:=[(m+937,jL (y+937))])) λn x' hC=>⟨x',hC,rfl,List.perm_append_comm (l₁:=[(m+937,jL (y+937))])⟩) [0,1] (FL _) (λn x _ hC=>⟨x,trivial,rfl,λ_ h=>h,id⟩)
theorem zn{w:World}{L:Nat}{m y x i ep:Nat}{vs:List Value}(hx:vs[i]?=none):Spec w L none (.call (.ref (m+937)) ⟨[],[]⟩) ([(m+937,jL (y+937)),(y+937,ai (x+937) i)]++[(x+937,aa vs ep)]) (X:=Nat) (λ_ _=>True) (λn=>.error (.ref (n+938))) (λn=>[(m+937,jL (y+937)),(y+937,av i)]++[(n+937,aW []),(n+938,b8 (n+937))]++[(x+937,aa vs ep)]):=by
 refine aA _ _ λA R d os hb m0 g tk b Z F E=>?_
 have pm:∀n:Nat,([(m+937,jL (y+937)),(y+937,av i)]++[(n+937,aW []),(n+938,b8 (n+937))]++[(x+937,aa vs ep)]).Perm ([(m+937,jL (y+937))]++([(y+937,av i),(x+937,aa vs ep)]++[(n+937,aW []),(n+938,b8 (n+937))])):=λn=>List.Perm.append_left [(m+937,jL (y+937)),(y+937,av i)] (List.perm_append_comm (l₁:=[(n+937,aW []),(n+938,b8 (n+937))]) (l₂:=[(x+937,aa vs ep)]))
 refine ax F E Z 1 1 [(m+937,jL (y+937)),(y+937,ai (x+937) i)] [(x+937,aa vs ep)] [] (((pL (x:=x) (y:=y) (ep:=ep) hx).frame [(m+937,jL (y+937))]).convP (Nat.le_refl _) (List.perm_append_comm (l₁:=[(m+937,jL (y+937))])) λn x' hC=>⟨x',hC,rfl,FL _⟩) [0,1] (FL _) (λn x _ hC=>⟨x,trivial,rfl,λp hp=>((pm x).trans List.perm_append_comm).mem_iff.mp hp,λnd=>((((pm x).trans List.perm_append_comm).map _).nodup_iff).mpr nd⟩)
noncomputable def dE(k:Int)(x:AN):AN:=(x.1,k,x.2.2)
noncomputable def bK(A:List AN):List (Str×List Str):=A.map λx=>(x.1,x.2.2)
noncomputable def d8(A:List AN):Prop:=∀a∈bK A,∀s∈a.2,s∈(bK A).map (·.1)
noncomputable def gk(A:List AN):Prop:=∀a∈bK A,a.2.length≤64
noncomputable def aJ(A:List AN)(s:Str):List Str:=(((bK A).find? (·.1=s)).map (·.2)).getD []
theorem fE(A:List AN):(bK A).map (·.1)=A.map (·.1):=by
 unfold bK
 rw[List.map_map]
 rfl
theorem kN{f:AN→AN}(hf:∀x,(f x).1=x.1∧(f x).2.2=x.2.2)(s:Str)(A:List AN):bK (bk f s A)=bK A:=by
 unfold bK bk
 rw[List.map_map]
 refine List.map_congr_left λx _=>?_
 show((if x.1=s then f x else x).1,(if x.1=s then f x else x).2.2)=(x.1,x.2.2)
 by_cases h:x.1=s
 ·rw[if_pos h,(hf x).1,(hf x).2]
 ·rw[if_neg h]
theorem vj(l:List Str):∀Ar:List AN×List Str,bK (l.foldl cj Ar).1=bK Ar.1:=by
 induction l with
 |nil=>exactλ_=>rfl
 |cons s l ih=>exactλAr=>(ih _).trans (kN (f:=gR) (λ_=>⟨rfl,rfl⟩) s Ar.1)
theorem cX{A B:List AN}(h:bK A=bK B):A.map (·.1)=B.map (·.1):=by rw[←fE,←fE,h]
theorem i6{A B:List AN}(h:bK A=bK B)(c:d8 B):d8 A:=by
 unfold d8
 rw[h]
 exact c
theorem kM{A B:List AN}(h:bK A=bK B)(c:gk B):gk A:=by
 unfold gk
 rw[h]
 exact c
theorem iL{A B:List AN}(h:bK A=bK B)(s:Str):aJ A s=aJ B s:=by
 unfold aJ
 rw[h]
theorem ij{f:AN→AN}(hf:∀x,(f x).1=x.1){s t:Str}(h:s≠t):∀A:List AN,aS (bk f t A) s=aS A s:=by
 intro A
 unfold aS
 congr 2
 induction A with
 |nil=>rfl
 |cons x A ih =>
  show List.find? _ ((if x.1=t then f x else x)::bk f t A)=_
  rw[List.find?_cons,List.find?_cons]
  by_cases e:x.1=t
  ·rw[if_pos e,hf x,decide_eq_false (by rw[e];exactλz=>h z.symm)]
   exact ih
  ·rw[if_neg e]
   cases decide (x.1=s)with
   |true=>rfl
   |false=>exact ih
theorem wm{s:Str}:∀(l:List Str)(Ar:List AN×List Str),s∉l→aS (l.foldl cj Ar).1 s=aS Ar.1 s:=by
 intro l
 induction l with
 |nil=>exactλ_ _=>rfl
 |cons t l ih =>
  intro Ar h
  rw[FY,not_or]at h
  refine(ih _ h.2).trans ?_
  exact ij (f:=gR) (λ_=>rfl) h.1 _
theorem wJ:∀(l:List Str)(Ar:List AN×List Str),(l.foldl cj Ar).2.length≤Ar.2.length+l.length:=by
 intro l
 induction l with
 |nil=>exactλ_=>Nat.le_refl _
 |cons t l ih =>
  intro Ar
  refine Nat.le_trans (ih _) ?_
  have:(cj Ar t).2.length≤Ar.2.length+1:=by
   unfold cj
   dsimp only
   split
   ·rw[FZ]
    exact Nat.le_refl _
   ·exact Nat.le_succ _
  rw[FT]
  lia
noncomputable def bd(Ar:List AN×List Str)(s:Str):List AN×List Str:=(aJ Ar.1 s).foldl cj (bk (dE (-2)) s Ar.1,Ar.2)
theorem l8(Ar:List AN×List Str)(s:Str):bK (bd Ar s).1=bK Ar.1:=(vj _ _).trans (kN (f:=dE (-2)) (λ_=>⟨rfl,rfl⟩) s _)
theorem xF{G₁ G₂:List Nd}{v:Nd}(h:((aH (G₁++v::G₂)).map (·.1)).Nodup):aJ (ao (G₁++v::G₂)) v.S=v.ss.map (·.1):=by
 obtain⟨h1,h2⟩:=gb h
 unfold aJ bK
 rw[bh,bM,FM,FR,List.find?_append]
 have:((ao G₁).map λx=>(x.1,x.2.2)).find? (λx=>decide (x.1=v.S))=none:=by
  rw[List.find?_eq_none]
  intro x hx e
  obtain⟨y,hy,rfl⟩:=FX.mp hx
  exact h1 (by rw[←of_decide_eq_true e];exact FP hy)
 rw[this,List.find?_cons]
 have:decide ((v.abs.1,v.abs.2.2).1=v.S)=true:=decide_eq_true rfl
 rw[this]
 rfl
structure FS where
 p:SV
 it:Nat
 mw:Nat
 l:Nat
 i:Nat
 ss:List SV
 epl:Nat
 t:Tok
noncomputable def FS.io(f:FS):ah:=[(f.mw+937,jL (f.it+937)),(f.it+937,ai (f.l+937) f.i)]
noncomputable def eU(st:List FS):ah:=st.flatMap FS.io
noncomputable def FS.lst(f:FS):Addr×Obj:=(f.l+937,aa (f.ss.map sv) f.epl)
noncomputable abbrev du(st:List FS):List Value:=st.map λf=>sv f.p
noncomputable abbrev fy(st:List FS):List Value:=st.map λf=>.ref (f.mw+937)
noncomputable def gh:List FS→Option (SV×List FS)
 |[]=>none
 |f::st=>match f.ss[f.i]? with
  |none=>gh st
  |some p=>some (p,{f with i:=f.i+1}::st)
noncomputable def bU(st:List FS):List (Str×Value):=st.zipIdx.map λq=>(q.1.p.1,.int (q.2:Nat) q.1.t)
theorem dL(st:List FS)(f:FS):bU (st++[f])=bU st++[(f.p.1,.int (st.length:Nat) f.t)]:=by
 unfold bU
 rw[List.zipIdx_append,FM]
 simp
theorem fB(st:List FS):(bU st).map (·.1)=st.map (·.p.1):=by
 unfold bU
 rw[List.map_map]
 have:((λq:Str×Value=>q.1)∘λq:FS×Nat=>(q.1.p.1,Value.int (q.2:Nat) q.1.t))=(λf:FS=>f.p.1)∘Prod.fst:=rfl
 rw[this,←List.map_map,List.zipIdx_map_fst]
theorem eD(st:List FS):(bU st).length=st.length:=by
 unfold bU
 simp
theorem iG{st:List FS}{f:FS}(h:f.p.1∉st.map (·.p.1)):without (bU (st++[f])) f.p.1=bU st:=by
 rw[dL]
 unfold without
 rw[List.filter_append]
 have e1:(bU st).filter (λkv=>decide (kv.1≠f.p.1))=bU st:=by
  rw[List.filter_eq_self]
  intro a ha
  refine decide_eq_true λe=>h ?_
  rw[←fB,←e]
  exact FP ha
 rw[e1]
 simp
theorem qV(st:List FS)(f:FS):(valueAt (bU (st++[f])) f.p.1).isSome=true:=by
 rw[dL]
 unfold valueAt
 rw[Option.isSome_map,List.find?_isSome]
 exact⟨_,FO _ (.head _),decide_eq_true rfl⟩
theorem kl(st:List FS)(f:FS):eU (st++[f])=eU st++f.io:=by
 unfold eU
 rw[List.flatMap_append]
 simp
noncomputable abbrev cd(P:Params)(x1 x3 s1 s2 s3 s4 q1 q2 q3 q4 q5 q6:Nat):List DictEntry:=[de P U2 q1 (.ref (x1+937)),de P Cf q2 (.ref (x3+937)),de P (u [115,116,97,99,107]) q3 (.ref (s1+937)),de P (u [105,116,115,116,97,99,107]) q4 (.ref (s2+937)),de P (u [115,101,101,110]) q5 (.ref (s3+937)),de P (u [110,111,100,101,50,115,116,97,99,107,105]) q6 (.ref (s4+937))]
noncomputable abbrev cC(P:Params)(q:Tok)(z:Value):List DictEntry:=[de P yP q z]
noncomputable abbrev zc:List Stmt:=aE (az (aj 10) 8)
noncomputable abbrev Bb:Stmt:=br zc 5
noncomputable abbrev Bc:Stmt:=br (ir Bb) 1
noncomputable abbrev jI:Stmt:=br (bN Bc) 1
noncomputable abbrev gK:Stmt:=br (bN jI) 0
noncomputable abbrev aU(P:Params)(lo:Nat):Env:=bH 157 (BD P) lo
noncomputable abbrev lE(P:Params)(lo:Nat):Code:=b6 jI (aU P lo)
noncomputable abbrev Ck(P:Params)(lo:Nat):Code:=b6 Bc (aU P lo)
section
section
variable{w:World}{x1 x3 lo s1 s2 s3 s4 q1 q2 q3 q4 q5 q6 q7 ea eb ed ee:Nat}{z:Value}{st:List FS}{f:FS}{sl:Array (Option Value)}{es4:List DictEntry}{p:SV}{frL:ah}
noncomputable abbrev i0(P:Params)(x1 x3 lo s1 s2 s3 s4 q1 q2 q3 q4 q5 q6 q7 ee:Nat)(z:Value)(sl:Array (Option Value)):Addr×Obj:=(lo+937,df (cd P x1 x3 s1 s2 s3 s4 q1 q2 q3 q4 q5 q6++cC P q7 z) ee sl)
noncomputable abbrev j5(s1 s2 s4 ea eb ed:Nat)(l1 l2:List Value)(es4:List DictEntry):ah:=[(s1+937,aa l1 ea),(s2+937,aa l2 eb),(s4+937,ae es4 ed)]
theorem Bk:Spec w 2 none (lE w.params lo) (i0 w.params x1 x3 lo s1 s2 s3 s4 q1 q2 q3 q4 q5 q6 q7 ee z sl::j5 s1 s2 s4 ea eb ed [] [] es4++frL) (X:=Unit) (λ_ _=>True) (λ_=>.ok .brk) (λ_=>i0 w.params x1 x3 lo s1 s2 s3 s4 q1 q2 q3 q4 q5 q6 q7 ee z sl::j5 s1 s2 s4 ea eb ed [] [] es4++frL):=by
 obtain⟨v,b1,b2,b3,rfl⟩:=al w
 refine aA _ _ λA R d os hb m0 g tk b Z F E=>?_
 exact fx F E 17 2181570689 [0,1,2,3] () _ frL [] (by rw[FK]) rfl trivial
theorem Bm(hl:st.length<sizeLine)(hx:(f.ss.map sv)[f.i]?=some (sv p)):Spec w 2 none (lE w.params lo) (i0 w.params x1 x3 lo s1 s2 s3 s4 q1 q2 q3 q4 q5 q6 q7 ee z sl::j5 s1 s2 s4 ea eb ed (du st++[sv f.p]) (fy st++[.ref (f.mw+937)]) es4++(f.io++([f.lst]++frL))) (X:=Unit) (λ_ _=>True) (λ_=>.ok .next)
  (λ_=>(i0 w.params x1 x3 lo s1 s2 s3 s4 q1 q2 q3 q4 q5 q6 q7 ee (sv p) sl::j5 s1 s2 s4 ea eb ed (du st++[sv f.p]) (fy st++[.ref (f.mw+937)]) es4++[(f.mw+937,jL (f.it+937)),(f.it+937,ai (f.l+937) (f.i+1))])++([f.lst]++frL)):=by
 have hl1:(du st++[sv f.p]).length≤sizeLine:=by simp;lia
 have hn1:(du st++[sv f.p]).length=st.length+1:=by simp
 have hk:seqIndex? (-1) (fy st++[Value.ref (f.mw+937)]).length=some st.length:=by simp[seqIndex?];lia
 have hy:(fy st++[Value.ref (f.mw+937)])[st.length]?=some (.ref (f.mw+937)):=by simp
 have hpf:(f.io++([f.lst]++frL)).Perm (f.io++([f.lst]++frL)):=FL _
 have hpl:([f.lst]++frL).Perm ([f.lst]++frL):=FL _
 obtain⟨v,b1,b2,b3,rfl⟩:=al w
 refine aA _ _ λA R d os hb m0 g tk b Z F E=>?_
 refine cx (L':=0) (hd':=none) F Z 5 8321 (gU (x:=s1) (ep:=ea) hl1 hn1) [1] λt5 m1 kk1 g1 _=>?_
 intro sS
 refine cx (L':=0) (hd':=none) F Z 14 798913 (dI (x:=s2) (ep:=eb) (u:=kk1+1) rfl hk hy) [2] λ_ m2 kk2 g2 _=>?_
 intro sS
 refine bn f.io _ hpf ?_
 refine cf (L':=0) (hd':=none) F Z 2 5 ([(f.mw+937,jL (f.it+937)),(f.it+937,ai (f.l+937) f.i)]) ([f.lst]) (frL) (λ_=>[(f.mw+937,jL (f.it+937)),(f.it+937,ai (f.l+937) (f.i+1))]) (λ_=>[]) (λ_=>[f.lst]) (wX (ep:=f.epl) hx) [4,5] (hpl) λ_ m3 kk3 g3 _=>?_
 intro sS
 exact fx F E 9 65 [0,1,2,3,4,5] () _ ([f.lst]++frL) [] (by rw[FK]) rfl trivial
theorem Bp(hl:st.length<sizeLine):jq w 2 none [aU w.params lo] (lE w.params lo) (isTrue (cT jI) (aU w.params lo) (eval (cT jI) (aU w.params lo))>>=λb=>pure (Flow.ret (.bool b))) (i0 w.params x1 x3 lo s1 s2 s3 s4 q1 q2 q3 q4 q5 q6 q7 ee z sl::j5 s1 s2 s4 ea eb ed (du st++[sv f.p]) (fy st++[.ref (f.mw+937)]) es4++frL) (X:=Unit) (λ_ _=>True) (λ_=>.ok (.ret (.bool true)))
  (λ_=>i0 w.params x1 x3 lo s1 s2 s3 s4 q1 q2 q3 q4 q5 q6 q7 ee z sl::j5 s1 s2 s4 ea eb ed (du st++[sv f.p]) (fy st++[.ref (f.mw+937)]) es4++frL):=by
 have hl1:(du st++[sv f.p]).length≤sizeLine:=by simp;lia
 have hn1:(du st++[sv f.p]).length=st.length+1:=by simp
 obtain⟨v,b1,b2,b3,rfl⟩:=al w
 refine gm (tt:=PySem.W.R.bindR (PySem.W.Fast.tw15418851999007992765 (cT jI) (aU (ay v b1 b2 b3).params lo) (PySem.W.Fast.tw14044960220447912780 (cT jI) (aU (ay v b1 b2 b3).params lo))) (λb=>Sem.pure (Flow.ret (.bool b)))) ?_ _ _ λA R d os hb m0 g tk b outer Z F E N=>?_
 ·rw[←PySem.W.R.bindR_eq,←PySem.W.Fast.te15418851999007992765,←PySem.W.Fast.te14044960220447912780]
  rfl
 refine cx (L':=0) (hd':=none) F Z 5 8321 (gU (x:=s1) (ep:=ea) hl1 hn1) [1] λt5 m1 kk1 g1 _=>?_
 intro sS
 exact fx F E 0 0 [0,1,2,3] () _ frL [] (by rw[FK]) rfl trivial
theorem Bq(hx:(f.ss.map sv)[f.i]?=none):jq w 2 none [aU w.params lo] (lE w.params lo) (execs (gD gK) (aU w.params lo)) (i0 w.params x1 x3 lo s1 s2 s3 s4 q1 q2 q3 q4 q5 q6 q7 ee z sl::j5 s1 s2 s4 ea eb ed (du st++[sv f.p]) (fy st++[.ref (f.mw+937)]) es4++(f.io++([f.lst]++frL))) (X:=Nat) (λ_ _=>True) (λnn=>.error (.ref (nn+938)))
  (λnn=>(i0 w.params x1 x3 lo s1 s2 s3 s4 q1 q2 q3 q4 q5 q6 q7 ee z sl::j5 s1 s2 s4 ea eb ed (du st++[sv f.p]) (fy st++[.ref (f.mw+937)]) es4++[(nn+938,b8 (nn+937))])++([f.lst]++frL)):=by
 have hk:seqIndex? (-1) (fy st++[Value.ref (f.mw+937)]).length=some st.length:=by simp[seqIndex?];lia
 have hy:(fy st++[Value.ref (f.mw+937)])[st.length]?=some (.ref (f.mw+937)):=by simp
 have hpf:(f.io++([f.lst]++frL)).Perm (f.io++([f.lst]++frL)):=FL _
 have hpl:([f.lst]++frL).Perm ([f.lst]++frL):=FL _
 obtain⟨v,b1,b2,b3,rfl⟩:=al w
 refine gm (tt:=PySem.W.Fast.tw12563942051412417395 (gD gK) (aU (ay v b1 b2 b3).params lo)) ?_ _ _ λA R d os hb m0 g tk b outer Z F E N=>?_
 ·rw[←PySem.W.Fast.te12563942051412417395]
 refine cx (L':=0) (hd':=none) F Z 13 798913 (dI (x:=s2) (ep:=eb) (u:=tk+1) rfl hk hy) [2] λ_ m1 kk1 g1 _=>?_
 intro sS
 refine bn f.io _ hpf ?_
 refine cf (L':=0) (hd':=none) F Z 2 5 ([(f.mw+937,jL (f.it+937)),(f.it+937,ai (f.l+937) f.i)]) ([f.lst]) (frL) (λnn=>[(f.mw+937,jL (f.it+937)),(f.it+937,av f.i)]) (λnn=>[(nn+937,aW []),(nn+938,b8 (nn+937))]) (λnn=>[f.lst]) (zn (ep:=f.epl) hx) [4,5] (hpl) λnn m2 kk2 g2 _=>?_
 intro sS
 exact fx F E 0 0 [0,1,2,3,7] nn _ ([f.lst]++frL) [] (by rw[FK]) rfl trivial
noncomputable abbrev pa(e T:Nat):Obj:=fM (b8 0).cls (.ref (e+937)) (.ref (T+937)) .none .none (.bool false) .none
variable{e T:Nat}{cs l1 l2:List Value}
theorem Bn:Spec w 1 (some (.ref (e+938))) (.handlers (.ref (e+938)) (lL (eG gK)) (aU w.params lo)) (i0 w.params x1 x3 lo s1 s2 s3 s4 q1 q2 q3 q4 q5 q6 q7 ee z sl::j5 s1 s2 s4 ea eb ed (du st++[sv f.p]) (fy st++[.ref (f.mw+937)]) es4++[(e+938,pa e T),(T+937,iW .none (lo+937) cs)]) (X:=Unit) (λ_ _=>True) (λ_=>.ok .brk)
  (λ_=>i0 w.params x1 x3 lo s1 s2 s3 s4 q1 q2 q3 q4 q5 q6 q7 ee z sl::j5 s1 s2 s4 ea eb ed (du st++[sv f.p]) (fy st++[.ref (f.mw+937)]) es4++[(e+938,pa e T),(T+937,iW .none (lo+937) cs)]):=by
 obtain⟨v,b1,b2,b3,rfl⟩:=al w
 refine ak λA R d os hb m0 g tk b Z F E=>?_
 exact fs F E 6 20480 [0,1,2,3,4,5] (λ_ _ _=>()) (by kernel_rfl) (by kernel_rfl) (by kernel_rfl) (by kernel_rfl) trivial
theorem Bo{kv4:List (Str×Value)}(hl:st.length<sizeLine)(h4:KV (SK w) es4 kv4)(hl4:kv4.length≤sizeLine)(hv4:(valueAt kv4 f.p.1).isSome=true):Spec w 1 (some (.ref (e+938))) (.handlers (.ref (e+938)) (jb (eG gK)) (aU w.params lo)) (i0 w.params x1 x3 lo s1 s2 s3 s4 q1 q2 q3 q4 q5 q6 q7 ee z sl::j5 s1 s2 s4 ea eb ed (du st++[sv f.p]) (fy st++[.ref (f.mw+937)]) es4++[(e+938,pa e T),(T+937,iW .none (lo+937) cs)]) (X:=Nat×Nat×List DictEntry×Nat) (λ_ x=>KV (SK w) x.2.2.1 (without kv4 f.p.1)) (λ_=>.ok .next)
  (λx=>i0 w.params x1 x3 lo s1 s2 s3 s4 q1 q2 q3 q4 q5 q6 q7 ee z sl::j5 s1 s2 s4 x.1 x.2.1 x.2.2.2 (du st) (fy st) x.2.2.1):=by
 have hz1:(du st).length<sizeLine:=by rw[FQ];exact hl
 have hz2:(fy st).length<sizeLine:=by rw[FQ];exact hl
 obtain⟨v,b1,b2,b3,rfl⟩:=al w
 refine ak λA R d os hb m0 g tk b Z F E=>?_
 refine cx (L':=0) (hd':=some (.ref (e+938))) F Z 16 571885649944965 (oz (x:=s1) (ep:=ea) (vs:=du st) (v:=sv f.p) hz1) [1] λea' m1 kk1 g1 _=>?_
 intro sS
 refine cx (L':=0) (hd':=some (.ref (e+938))) F Z 4 260 (tC (x:=s4) (ep:=ed) h4 (bw f.p.1 f.p.2) hl4 hv4) [3] λ(y:List DictEntry×Nat)m2 kk2 g2 hC4=>?_
 intro sS
 refine cx (L':=0) (hd':=some (.ref (e+938))) F Z 10 51130561 (oz (x:=s2) (ep:=eb) (vs:=fy st) (v:=.ref (f.mw+937)) hz2) [2] λeb' m3 kk3 g3 _=>?_
 intro sS
 exact fs F E 4 0 [0,1,2,3] (λ_ _ _=>(ea',eb',y.1,y.2)) (by kernel_rfl) (by kernel_rfl) (by kernel_rfl) (by kernel_rfl) hC4
end
end
section
section
variable{M:Model}{A:Around}{c:Code}{E:Value→Shared→Prop}{s:Shared}{α β:Type}
theorem hH{m:Sem α}{k:α→β}{Q:β→Shared→Prop}(h:wpOwn M A c (m>>=λa=>pure (k a)) Q E s):wpOwn M A c m (λa s'=>Q (k a) s') E s:=λΓ p hc hΓ=>by
 have z:=h Γ p hc hΓ
 rw[Sem.wp_bind']at z
 exact z
theorem lV{pos:Pos}{Q:Unit→Shared→Prop}(h:Q () s):wpOwn M A c (standAt pos) Q E s:=λ_ _ _ _=>h
end
section
variable{w:World}{L:Nat}{hd:Option Value}{pf:List Env}{c:Code}{X:Type}{C:X→Prop}{r:X→Result}{post:X→ah}{pre:ah}
theorem gG.drop{d:Drawn}{os:OsState}{hb:Heap}{m0:cM}{rest:ah}{nb nb':Nat}{r':Result}{s':Shared}(h:gG w d os hb m0 rest nb (λ_=>C) r post r' s'):gG w d os hb m0 [] nb' (λ_=>C) r post r' s':=by
 obtain⟨x,h',tk',g',e2,hC,H⟩:=h
 refine⟨x,h',tk',g',e2,hC,?_⟩
 rw[FK]
 exact H.sub (λp hp=>FN _ hp) (iD H.nd)
theorem gA(h:∀(A:Around)(hb:Heap)(m0:cM)(g:GB)(d:Drawn)(tk:Nat)(os:OsState)(outer:List Env)(nx:Nat),Rm A L hd→Nz w A hb m0 pf outer→cQ w hb pf→aI (bo w) hb m0 hb pre nx→
   wpOwn (model pw w) A c (denote table c) (postC pw w A (gG w d os hb m0 [] nx (λ_=>C) r post)) (postE (gG w d os hb m0 [] nx (λ_=>C) r post)) ⟨hb,g,d,tk,os⟩):aR w L hd pf c pre (λ_=>C) r post:=by
 intro A hb g d tk os outer Z hff fok hdis hst hpre hoff nd
 have H:aI (bo w) hb ⟨pre.map (·.1),aK outer⟩ hb pre hb.objs.size:=⟨rfl,hst,hpre,hoff,nd,λp hp=>.inl (FP hp),λb o e _=>a6 e,Nat.le_refl _⟩
 refine codeAny_mono (y_code _ _ _ _ _ _ (h A hb ⟨pre.map (·.1),aK outer⟩ g d tk os outer hb.objs.size Z ⟨hff,fok.split.2,rfl,hdis⟩ fok.split.1 H)) λr' s'⟨x,h',tk',g',e2,hC,H'⟩=>?_
 rw[FK]at H'
 exact⟨x,h',tk',g',e2,hC,H'.own,H'.low,H'.nd,H'.keep,H'.grow⟩
end
noncomputable def zd:List ExceptHandler→Bool
 |[.ExceptHandler (some _) none _ _]=>true
 |_=>false
theorem wC{l:List ExceptHandler}(h:zd l=true):∃t b p,l=[.ExceptHandler (some t) none b p]:=by
 rcases l with _|⟨⟨_|t,_|n,b,p⟩,_|_⟩<;>first|exact Bool.noConfusion h|exact⟨_,_,_,rfl⟩
noncomputable def mO:Stmt→Bool
 |.Try _ hs o f _=>zd hs&&(o.isEmpty&&f.isEmpty)
 |_=>false
theorem rH{st:Stmt}:mO st=true→∃t b p pos,st=.Try (gD st) [.ExceptHandler (some t) none b p] [] [] pos∧eG st=[.ExceptHandler (some t) none b p]:=by
 apply@Stmt.casesOn (λst=>mO st=true→∃t b p pos,st=.Try (gD st) [.ExceptHandler (some t) none b p] [] [] pos∧eG st=[.ExceptHandler (some t) none b p]) st<;>intros
 case Try a hs o f pos h =>
  have h:(zd hs&&(o.isEmpty&&f.isEmpty))=true:=h
  rw[Bool.and_eq_true,Bool.and_eq_true]at h
  obtain⟨t,b,p,rfl⟩:=wC h.1
  obtain rfl:=List.isEmpty_iff.mp h.2.1
  obtain rfl:=List.isEmpty_iff.mp h.2.2
  exact⟨t,b,p,pos,rfl,rfl⟩
 all_goals (rename_i h;exact Bool.noConfusion h)
noncomputable def yi:List Stmt→Bool
 |[_]=>true
 |_=>false
theorem zu{l:List Stmt}(h:yi l=true):l=[br l 0]:=by
 rcases l with _|⟨_,_|_⟩<;>first|exact Bool.noConfusion h|rfl
noncomputable def mQ:Stmt→Bool
 |.While ..=>true
 |_=>false
noncomputable def jn:Stmt→List Stmt
 |.While _ _ o _=>o
 |_=>[]
theorem vP{st:Stmt}(h:mQ st=true)(env:Env):b6 st env=.whileLoop (cT st) (bN st) (jn st) env:=by
 revert h
 apply@Stmt.casesOn (λst=>mQ st=true→b6 st env=.whileLoop (cT st) (bN st) (jn st) env) st<;>intros
 case While=>rfl
 all_goals (rename_i h;exact Bool.noConfusion h)
section
variable{w:World}{x1 x3 lo s1 s2 s3 s4 q1 q2 q3 q4 q5 q6 q7 ea eb ed ee:Nat}{z:Value}{st:List FS}{f:FS}{sl:Array (Option Value)}{es4:List DictEntry}{p:SV}{frL:ah}{kv4:List (Str×Value)}
variable{X:Type}{C:X→Prop}{r:X→Result}{post:X→ah}
theorem t9(hl:st.length<sizeLine)(hx:(f.ss.map sv)[f.i]?=none)(h4:KV (SK w) es4 kv4)(hl4:kv4.length≤sizeLine)(hv4:(valueAt kv4 f.p.1).isSome=true)
  (ih:∀(σ:Array (Option Value))(ea' eb' ed':Nat)(es':List DictEntry),KV (SK w) es' (without kv4 f.p.1)→aR w 2 none [aU w.params lo] (lE w.params lo) (i0 w.params x1 x3 lo s1 s2 s3 s4 q1 q2 q3 q4 q5 q6 q7 ee z σ::j5 s1 s2 s4 ea' eb' ed' (du st) (fy st) es'++([f.lst]++frL)) (λ_=>C) r post):
  aR w 2 none [aU w.params lo] (lE w.params lo) (i0 w.params x1 x3 lo s1 s2 s3 s4 q1 q2 q3 q4 q5 q6 q7 ee z sl::j5 s1 s2 s4 ea eb ed (du st++[sv f.p]) (fy st++[.ref (f.mw+937)]) es4++(f.io++([f.lst]++frL))) (λ_=>C) r post:=by
 refine gA λA hb m0 g d tk os outer nx Z N fk H=>?_
 have e1:mQ jI=true:=by kernel_rfl
 have e2:yi (bN jI)=true:=by kernel_rfl
 have e3:mO gK=true:=by kernel_rfl
 have hw:=vP e1 (aU w.params lo)
 obtain⟨t,b,p',pos,ht1,ht2⟩:=rH e3
 have hq:qq (lE w.params lo)=true:=by kernel_rfl
 have hwt:Nat.ble (wt (lE w.params lo)) 40=true:=by kernel_rfl
 have hun:Nat.ble (un (lE w.params lo)) 100=true:=by kernel_rfl
 have hcE:(lE w.params lo).envs=[]:=by kernel_rfl
 have hff:(A.under (lE w.params lo)).frames=some ([aU w.params lo]++outer):=by
  show pushEnvs (lE w.params lo).envs A.frames=_
  rw[hcE,pushEnvs_eq,N.fr]
  rfl
 have hden:denote table (lE w.params lo)=(whileTurn (cT jI) (bN jI) (jn jI) (aU w.params lo)).onRaise (λx=>do noteFrame x (aU w.params lo);theTreesLotGoes x):=by
  show denote table (b6 jI (aU w.params lo))=_
  rw[hw]
  rfl
 rw[hden]
 refine eC ?_
 unfold whileTurn
 refine wpOwn_bind (wpOwn_mono (hH (eZ (rest:=[]) (Bp hl) Z N fk (by rw[FK];exact H))) (λb' s' h=>?_) λe' s' h=>?_)
 rotate_left
 ·obtain⟨_,_,_,_,er,_⟩:=h
  cases er
 obtain⟨_,h1,tk1,g1,er,_,H1⟩:=h
 injection er with er
 injection er with er
 injection er with er
 subst er
 simp only[if_true]
 refine wpOwn_bind ?_
 rw[zu e2,execs_cons]
 refine wpOwn_bind ?_
 show wpOwn _ A _ (exec gK (aU w.params lo)) _ _ _
 rw[ht1,arm_exec_Try]
 refine wpOwn_bind (lV ?_)
 refine qU (wpOwn_mono (eZ (rest:=[]) (Bq hx) Z N (bx rfl H1 (.head _) rfl rfl rfl) H1) (λf' s' h=>?_) λe' s' h=>?_)
 ·obtain⟨_,_,_,_,er,_⟩:=h
  cases er
 obtain⟨nn,h2,tk2,g2,er,_,H2⟩:=h
 injection er with er
 subst er
 have H2':aI (bo w) hb m0 h2 ([(nn+938,fM (b8 0).cls (.ref (nn+937)) .none .none .none (.bool false) .none),i0 w.params x1 x3 lo s1 s2 s3 s4 q1 q2 q3 q4 q5 q6 q7 ee z sl]++(j5 s1 s2 s4 ea eb ed (du st++[sv f.p]) (fy st++[.ref (f.mw+937)]) es4++([f.lst]++frL))) h2.objs.size:=
  H2.perm (by
   rw[FK]
   exact(List.Perm.append_right _ (List.perm_append_comm (l₂:=[(nn+938,b8 (nn+937))]))))
 refine wpAny_mono (hF N hff rfl rfl rfl H2' λh3 T cs σ H3=>?_) (λ_ _ x=>x) λ_ _ x=>x
 have Z':Rm ((A.under (lE w.params lo)).mark (some (.ref (nn+938)))) 1 (some (.ref (nn+938))):=by
  refine⟨rfl,?_,?_⟩
  ·have h1:=Z.d
   have h2:=Nat.le_of_ble_eq_true hwt
   show A.depth+(lE w.params lo).weight≤_
   rw[fJ]
   simp only[DL]at h1⊢
   lia
  ·have h1:=Z.u
   have h2:=Nat.le_of_ble_eq_true hun
   show A.units+(lE w.params lo).cUnits≤_
   rw[gO]
   simp only[UL]at h1⊢
   lia
 have fok3:∀{hq:Heap}{σ:Array (Option Value)}{nq:Nat}{oo:ah},aI (bo w) hb m0 hq oo nq→i0 w.params x1 x3 lo s1 s2 s3 s4 q1 q2 q3 q4 q5 q6 q7 ee z σ∈oo→cQ w hq [aU w.params lo]:=λH hm=>bx rfl H hm rfl rfl rfl
 have H3':aI (bo w) hb m0 h3 ((i0 w.params x1 x3 lo s1 s2 s3 s4 q1 q2 q3 q4 q5 q6 q7 ee z σ::j5 s1 s2 s4 ea eb ed (du st++[sv f.p]) (fy st++[.ref (f.mw+937)]) es4++[(nn+938,pa nn T),(T+937,iW .none (lo+937) cs)])++([f.lst]++frL)) h3.objs.size:=
  H3.perm (by
   rw[←FV]
   refine List.Perm.append_right _ ?_
   exact(List.Perm.swap _ _ _).trans (List.Perm.cons _ (List.perm_append_comm (l₁:=[(nn+938,pa nn T),(T+937,iW .none (lo+937) cs)]))))
 have es1:lL (eG gK)=[.ExceptHandler (some t) none [] p']:=by rw[ht2];rfl
 have es2:jb (eG gK)=[.ExceptHandler none none b p']:=by rw[ht2];rfl
 have L1:=(eR (c':=.handlers (.ref (nn+938)) (lL (eG gK)) (aU w.params lo)) (g:=g2) (d:=d) (tk:=tk2) (os:=os) (Bn.toN [aU w.params lo]) Z' N hff (fok3 H3' (.head _)) H3')
 rw[es1]at L1
 refine wpAny_handleBy_cons (codeAny_mono L1 λr' s' h=>?_) (by intro q;cases q)
 obtain⟨_,h4',tk4,g4,rfl,_,H4⟩:=h
 have L2:=(eR (c':=.handlers (.ref (nn+938)) (jb (eG gK)) (aU w.params lo)) (g:=g4) (d:=d) (tk:=tk4) (os:=os) ((Bo hl h4 hl4 hv4).toN [aU w.params lo]) Z' N hff (fok3 H4 (.head _)) H4)
 rw[es2]at L2
 refine codeAny_mono L2 λr' s' h=>?_
 obtain⟨x,h5,tk5,g5,rfl,hC5,H5⟩:=h
 show wpOwn _ _ _ _ _ _ _
 rw[execs_nil]
 refine gf (gf (y_again _ _ _ _ _ _ (by rw[oP];exact hq) ?_))
 refine codeAny_mono (eR (ih σ x.1 x.2.1 x.2.2.2 x.2.2.1 hC5) Z N N.fr (fok3 H5 (.head _)) (rest:=[]) (by rw[FK];exact H5)) λr' s' h=>h.drop
end
end
section
theorem aR.convP{w:World}{L:Nat}{hd:Option Value}{pf:List Env}{c:Code}{pre pre':ah}{X X':Type}{C:Nat→X→Prop}{r:X→Result}{post:X→ah}{C':Nat→X'→Prop}{r':X'→Result}{post':X'→ah}(S:aR w L hd pf c pre C r post)(hp:pre'.Perm pre)
  (h:∀n x,C n x→∃x',C' n x'∧r x=r' x'∧(post' x').Perm (post x)):aR w L hd pf c pre' C' r' post':=by
 intro A hb g d tk os outer Z hff fok hdis hst hpre hoff nd
 have pm:=hp.map (·.1)
 refine codeAny_mono (S A hb g d tk os outer Z hff fok (λa ha hm=>hdis a ha (pm.mem_iff.mpr hm)) hst (λp q=>hpre p (hp.mem_iff.mpr q)) (λp q=>hoff p (hp.mem_iff.mpr q)) (pm.nodup_iff.mp nd)) λr'' s'⟨x,h',tk',g',e2,hC,hpost,hnl,hnn,hk⟩=>?_
 obtain⟨x',h1,h2,h3⟩:=h _ x hC
 exact⟨x',h',tk',g',e2.trans h2,h1,λp q=>hpost p (h3.mem_iff.mp q),λp q=>(hnl p (h3.mem_iff.mp q)).imp (λz=>pm.mem_iff.mpr z) id,((h3.map _).nodup_iff).mpr hnn,λb o e hb'=>hk.1 b o e λq=>hb' (pm.mem_iff.mpr q),hk.2⟩
structure B7 where
 sl:Array (Option Value)
 ea:Nat
 eb:Nat
 ed:Nat
 es:List DictEntry
section
variable{w:World}{x1 x3 lo s1 s2 s3 s4 q1 q2 q3 q4 q5 q6 q7 ee:Nat}{z:Value}{G:List Nd}
noncomputable abbrev fh(P:Params)(x1 x3 lo s1 s2 s3 s4 q1 q2 q3 q4 q5 q6 q7 ee:Nat)(z:Value)(sl:Array (Option Value))(ea eb ed:Nat)(st:List FS)(es:List DictEntry):ah:=
 i0 P x1 x3 lo s1 s2 s3 s4 q1 q2 q3 q4 q5 q6 q7 ee z sl::j5 s1 s2 s4 ea eb ed (du st) (fy st) es
theorem mU{f:FS}:(f.ss.map sv)[f.i]?=(f.ss[f.i]?).map sv:=List.getElem?_map
theorem mK{T:List FS}{f:FS}{fr:ah}(hfr:(GO G).Perm ([f.lst]++fr)):(eU (T.reverse++[f])++GO G).Perm (f.io++([f.lst]++(eU T.reverse++fr))):=by
 rw[kl]
 refine(List.Perm.append_right _ List.perm_append_comm).trans ?_
 rw[FV]
 exact List.Perm.append_left _ ((List.Perm.append_left _ hfr).trans List.perm_middle)
theorem qA{T:List FS}{f:FS}{fr:ah}(hfr:(GO G).Perm ([f.lst]++fr)):(eU T.reverse++GO G).Perm ([f.lst]++(eU T.reverse++fr)):=
 (List.Perm.append_left _ hfr).trans List.perm_middle
theorem qg{p:SV}{T':List FS}:∀(T:List FS)(sl:Array (Option Value))(ea eb ed:Nat)(es4:List DictEntry),gh T=some (p,T')→T.length≤sizeLine→(∀f∈T,f.lst∈G.map Nd.lst)→(T.map (·.p.1)).Nodup→KV (SK w) es4 (bU T.reverse)→
  aR w 2 none [aU w.params lo] (lE w.params lo) (fh w.params x1 x3 lo s1 s2 s3 s4 q1 q2 q3 q4 q5 q6 q7 ee z sl ea eb ed T.reverse es4++(eU T.reverse++GO G))
   (X:=B7) (λ_ x=>KV (SK w) x.es (bU T'.reverse)) (λ_=>.ok .next) (λx=>fh w.params x1 x3 lo s1 s2 s3 s4 q1 q2 q3 q4 q5 q6 q7 ee (sv p) x.sl x.ea x.eb x.ed T'.reverse x.es++(eU T'.reverse++GO G)):=by
 intro T
 induction T with
 |nil=>intro _ _ _ _ _ h;cases h
 |cons f T ih =>
  intro sl ea eb ed es4 hp hl hG hnd h4
  obtain⟨fr,hfr⟩:=ms (hG f (.head _))
  have hl':T.reverse.length<sizeLine:=by rw[List.length_reverse];exact hl
  rw[FR,List.nodup_cons]at hnd
  rw[List.reverse_cons]at h4
  have e1:fh w.params x1 x3 lo s1 s2 s3 s4 q1 q2 q3 q4 q5 q6 q7 ee z sl ea eb ed (f::T).reverse es4=i0 w.params x1 x3 lo s1 s2 s3 s4 q1 q2 q3 q4 q5 q6 q7 ee z sl::j5 s1 s2 s4 ea eb ed (du T.reverse++[sv f.p]) (fy T.reverse++[.ref (f.mw+937)]) es4:=by
   unfold fh du fy
   rw[List.reverse_cons,FM,FM]
   rfl
  rw[e1,List.reverse_cons]
  unfold gh at hp
  cases hx:f.ss[f.i]? with
  |none =>
   rw[hx]at hp
   have hx':(f.ss.map sv)[f.i]?=none:=by rw[mU,hx];rfl
   have hn:f.p.1∉T.reverse.map (·.p.1):=by rw[List.map_reverse,List.mem_reverse];exact hnd.1
   refine(t9 (frL:=eU T.reverse++fr) hl' hx' h4 (by rw[eD,FZ];exact hl') (qV _ _) λσ ea' eb' ed' es' hkv=>?_).convP (List.Perm.append_left _ (mK hfr)) λn x hC=>⟨x,hC,rfl,FL _⟩
   rw[iG hn]at hkv
   exact(ih σ ea' eb' ed' es' hp (Nat.le_of_succ_le hl) (λf' h'=>hG f' (.tail _ h')) hnd.2 hkv).convP (List.Perm.append_left _ (qA hfr).symm) λn x hC=>⟨x,hC,rfl,FL _⟩
  |some p' =>
   rw[hx]at hp
   injection hp with hp
   injection hp with hp1 hp2
   subst hp1
   subst hp2
   have hx':(f.ss.map sv)[f.i]?=some (sv p'):=by rw[mU,hx];rfl
   refine((Bm (w:=w) (frL:=eU T.reverse++fr) hl' hx').convP (Nat.le_refl _) (List.Perm.append_left _ (mK hfr)) λn x hC=>⟨⟨sl,ea,eb,ed,es4⟩,?_,rfl,?_⟩).toN _
   ·rw[List.reverse_cons,dL]
    rw[dL]at h4
    exact h4
   ·have e2:fh w.params x1 x3 lo s1 s2 s3 s4 q1 q2 q3 q4 q5 q6 q7 ee (sv p') sl ea eb ed (({f with i:=f.i+1}:FS)::T).reverse es4=i0 w.params x1 x3 lo s1 s2 s3 s4 q1 q2 q3 q4 q5 q6 q7 ee (sv p') sl::j5 s1 s2 s4 ea eb ed (du T.reverse++[sv f.p]) (fy T.reverse++[.ref (f.mw+937)]) es4:=by
     unfold fh du fy
     rw[List.reverse_cons,FM,FM]
     rfl
    rw[e2,List.reverse_cons]
    have:=mK (T:=T) (f:={f with i:=f.i+1}) hfr
    exact(List.Perm.append_left _ this).trans (by rw[FV];exact FL _)
theorem qf:∀(T:List FS)(sl:Array (Option Value))(ea eb ed:Nat)(es4:List DictEntry),gh T=none→T.length≤sizeLine→(∀f∈T,f.lst∈G.map Nd.lst)→(T.map (·.p.1)).Nodup→KV (SK w) es4 (bU T.reverse)→
  aR w 2 none [aU w.params lo] (lE w.params lo) (fh w.params x1 x3 lo s1 s2 s3 s4 q1 q2 q3 q4 q5 q6 q7 ee z sl ea eb ed T.reverse es4++(eU T.reverse++GO G))
   (X:=B7) (λ_ x=>KV (SK w) x.es []) (λ_=>.ok .brk) (λx=>fh w.params x1 x3 lo s1 s2 s3 s4 q1 q2 q3 q4 q5 q6 q7 ee z x.sl x.ea x.eb x.ed [] x.es++GO G):=by
 intro T
 induction T with
 |nil =>
  intro sl ea eb ed es4 _ _ _ _ h4
  exact((Bk (w:=w) (frL:=GO G)).convP (Nat.le_refl _) (FL _) λn x hC=>⟨⟨sl,ea,eb,ed,es4⟩,h4,rfl,FL _⟩).toN _
 |cons f T ih =>
  intro sl ea eb ed es4 hp hl hG hnd h4
  obtain⟨fr,hfr⟩:=ms (hG f (.head _))
  have hl':T.reverse.length<sizeLine:=by rw[List.length_reverse];exact hl
  rw[FR,List.nodup_cons]at hnd
  rw[List.reverse_cons]at h4
  have e1:fh w.params x1 x3 lo s1 s2 s3 s4 q1 q2 q3 q4 q5 q6 q7 ee z sl ea eb ed (f::T).reverse es4=i0 w.params x1 x3 lo s1 s2 s3 s4 q1 q2 q3 q4 q5 q6 q7 ee z sl::j5 s1 s2 s4 ea eb ed (du T.reverse++[sv f.p]) (fy T.reverse++[.ref (f.mw+937)]) es4:=by
   unfold fh du fy
   rw[List.reverse_cons,FM,FM]
   rfl
  rw[e1,List.reverse_cons]
  unfold gh at hp
  cases hx:f.ss[f.i]? with
  |none =>
   rw[hx]at hp
   have hx':(f.ss.map sv)[f.i]?=none:=by rw[mU,hx];rfl
   have hn:f.p.1∉T.reverse.map (·.p.1):=by rw[List.map_reverse,List.mem_reverse];exact hnd.1
   refine(t9 (frL:=eU T.reverse++fr) hl' hx' h4 (by rw[eD,FZ];exact hl') (qV _ _) λσ ea' eb' ed' es' hkv=>?_).convP (List.Perm.append_left _ (mK hfr)) λn x hC=>⟨x,hC,rfl,FL _⟩
   rw[iG hn]at hkv
   exact(ih σ ea' eb' ed' es' hp (Nat.le_of_succ_le hl) (λf' h'=>hG f' (.tail _ h')) hnd.2 hkv).convP (List.Perm.append_left _ (qA hfr).symm) λn x hC=>⟨x,hC,rfl,FL _⟩
  |some p' =>
   rw[hx]at hp
   cases hp
end
end
section
noncomputable abbrev cI(nd:SV)(m:Nat)(nv:Nd)(t:Tok):FS:=⟨nd,m,m+1,nv.l,0,nv.ss,nv.ep,t⟩
noncomputable def fK(S:Str→Bool)(k:Str):Str→Bool:=λk'=>S k'||decide (k'=k)
noncomputable def hJ:List FS→Nat
 |[]=>0
 |f::T=>(f.ss.length-f.i)+hJ T
noncomputable def vO(S:Str→Bool):List Nd→Nat
 |[]=>0
 |v::G=>(if S v.S then 0 else 1+v.ss.length)+vO S G
noncomputable def kZ(S:Str→Bool):List Nd→Nat
 |[]=>0
 |v::G=>(if S v.S then 0 else 1)+kZ S G
theorem bX{p:SV}{T':List FS}:∀{T:List FS},gh T=some (p,T')→∃pr f T0,T=pr++f::T0∧f.ss[f.i]?=some p∧T'={f with i:=f.i+1}::T0
 |[],h=>by cases h
 |f::T,h=>by
  unfold gh at h
  cases hx:f.ss[f.i]? with
  |none =>
   rw[hx]at h
   obtain⟨pr,f',T0,e1,e2,e3⟩:=bX h
   exact⟨f::pr,f',T0,by rw[e1];rfl,e2,e3⟩
  |some q =>
   rw[hx]at h
   injection h with h
   injection h with h1 h2
   exact⟨[],f,T,rfl,by rw[hx,h1],h2.symm⟩
theorem jB:∀(a b:List FS),hJ (a++b)=hJ a+hJ b
 |[],b=>(Nat.zero_add _).symm
 |f::a,b=>by
  show _+hJ (a++b)=_+hJ a+hJ b
  rw[jB a b,Nat.add_assoc]
theorem oN{p:SV}{T T':List FS}(h:gh T=some (p,T')):hJ T'<hJ T:=by
 obtain⟨pr,f,T0,rfl,hx,rfl⟩:=bX h
 have hi:=(List.getElem?_eq_some_iff.mp hx).1
 rw[jB]
 show(f.ss.length-(f.i+1))+hJ T0<hJ pr+((f.ss.length-f.i)+hJ T0)
 lia
theorem v5{S:Str→Bool}{k:Str}(G:List Nd):vO (fK S k) G≤vO S G∧kZ (fK S k) G≤kZ S G:=by
 induction G with
 |nil=>exact⟨Nat.le_refl _,Nat.le_refl _⟩
 |cons v G ih =>
  unfold vO kZ
  have:(if fK S k v.S then 0 else 1+v.ss.length)≤(if S v.S then 0 else 1+v.ss.length)∧(if fK S k v.S then 0 else 1)≤(if S v.S then 0 else 1):=by
   unfold fK
   cases S v.S<;>cases decide (v.S=k)<;>simp
  lia
theorem mz{S:Str→Bool}{v:Nd}:∀{G:List Nd},v∈G→S v.S=false→vO (fK S v.S) G+(1+v.ss.length)≤vO S G∧kZ (fK S v.S) G+1≤kZ S G
 |[],h,_=>by cases h
 |x::G,h,hs=>by
  have z:=v5 (S:=S) (k:=v.S) G
  rcases FY.mp h with rfl|h
  ·unfold vO kZ
   rw[hs,show fK S v.S v.S=true from by simp[fK]]
   simp only[if_true,Bool.false_eq_true,if_false]
   lia
  ·have y:=mz h hs
   unfold vO kZ
   have:(if fK S v.S x.S then 0 else 1+x.ss.length)≤(if S x.S then 0 else 1+x.ss.length)∧(if fK S v.S x.S then 0 else 1)≤(if S x.S then 0 else 1):=by
    unfold fK
    cases S x.S<;>cases decide (x.S=v.S)<;>simp
   lia
theorem nI(S:Str→Bool):∀G:List Nd,kZ S G≤G.length
 |[]=>Nat.le_refl _
 |v::G=>by
  have:=nI S G
  unfold kZ
  rw[FT]
  split<;>lia
noncomputable def jG(G:List Nd)(T:List FS):Prop:=∀f∈T,∃v∈G,v.S=f.p.1∧v.l=f.l∧v.ss=f.ss∧v.ep=f.epl
theorem jG.lst{G:List Nd}{T:List FS}(h:jG G T):∀f∈T,f.lst∈G.map Nd.lst:=λf hf=>by
 obtain⟨v,hv,_,e2,e3,e4⟩:=h f hf
 refine FX.mpr ⟨v,hv,?_⟩
 unfold Nd.lst FS.lst
 rw[e2,e3,e4]
theorem jG.pop{G:List Nd}{T T':List FS}{p:SV}(h:jG G T)(hp:gh T=some (p,T')):jG G T':=by
 obtain⟨pr,f,T0,rfl,hx,rfl⟩:=bX hp
 intro f' hf'
 rcases FY.mp hf' with rfl|hf'
 ·exact h f (FO _ (.head _))
 ·exact h f' (FO _ (.tail _ hf'))
theorem jG.next{G:List Nd}{T T':List FS}{p:SV}(h:jG G T)(hp:gh T=some (p,T')):∃v∈G,p∈v.ss∧∀f∈T',True:=by
 obtain⟨pr,f,T0,rfl,hx,rfl⟩:=bX hp
 obtain⟨v,hv,_,_,e3,_⟩:=h f (FO _ (.head _))
 exact⟨v,hv,e3▸List.mem_of_getElem? hx,λ_ _=>trivial⟩
noncomputable def ia(ρ:Str→Nat)(k:Str)(T:List FS):Prop:=(k::T.map (·.p.1)).Pairwise λa b=>ρ a < ρ b
theorem ia.pop{G:List Nd}{ρ:Str→Nat}{T T':List FS}{p:SV}{k:Str}(hρ:∀v∈G,∀s∈v.ss,ρ s.1 < ρ v.S)(hs:jG G T)(h:ia ρ k T)(hp:gh T=some (p,T')):ia ρ p.1 T':=by
 obtain⟨pr,f,T0,rfl,hx,rfl⟩:=bX hp
 obtain⟨v,hv,e1,_,e3,_⟩:=hs f (FO _ (.head _))
 have lt:ρ p.1 < ρ f.p.1:=e1▸hρ v hv p (e3▸List.mem_of_getElem? hx)
 unfold ia at h⊢
 rw[FM,FR]at h
 have h2:=(List.pairwise_append.mp (List.pairwise_cons.mp h).2).2.1
 show List.Pairwise _ (p.1::f.p.1::T0.map (·.p.1))
 refine List.pairwise_cons.mpr ⟨λa ha=>?_,h2⟩
 rcases FY.mp ha with rfl|ha
 ·exact lt
 ·exact Nat.lt_trans lt ((List.pairwise_cons.mp h2).1 a ha)
theorem ia.push{ρ:Str→Nat}{T:List FS}{nd:SV}{m:Nat}{nv:Nd}{t:Tok}(h:ia ρ nd.1 T):((cI nd m nv t::T).map (·.p.1)).Pairwise λa b=>ρ a < ρ b:=h
theorem oO{ρ:Str→Nat}{l:List Str}(h:l.Pairwise λa b=>ρ a < ρ b):l.Nodup:=h.imp λh e=>by
 rw[e]at h
 exact Nat.lt_irrefl _ h
theorem kU{T:List FS}{k:Str}(h:k∉T.map (·.p.1))(v:Value):stored (bU T.reverse) k v=bU T.reverse++[(k,v)]:=by
 unfold stored
 rw[if_neg]
 intro e
 obtain⟨p,hp,e⟩:=List.any_eq_true.mp e
 refine h ?_
 have:p.1∈(bU T.reverse).map (·.1):=FP hp
 rw[fB,List.map_reverse,List.mem_reverse]at this
 rw[←of_decide_eq_true e]
 exact this
theorem uK{T:List FS}{k:Str}(h:k∉T.map (·.p.1)):(valueAt (bU T.reverse) k).isSome=false:=by
 unfold valueAt
 rw[Option.isSome_map,←Bool.not_eq_true,List.find?_isSome]
 rintro⟨p,hp,e⟩
 refine h ?_
 have:p.1∈(bU T.reverse).map (·.1):=FP hp
 rw[fB,List.map_reverse,List.mem_reverse]at this
 rw[←of_decide_eq_true e]
 exact this
section
variable{w:World}
theorem a8{L:Nat}{hd:Option Value}{x n:Nat}{sd:Data}{S:Str→Bool}{k:Str}{t:Tok}{b:Bool}(h:cq w sd S n)(hb:S k=b):Spec w L hd (.call (.builtin "set.__contains__") ⟨[.ref (x+937),.str k t],[]⟩) [(x+937,bL sd)] (X:=Unit) (λ_ _=>True) (λ_=>.ok (.ret (.bool b))) (λ_=>[(x+937,bL sd)]):=hb▸nz h
theorem dd{K:Type}[DecidableEq K]{knd:KeyKind pw w K}{es:List DictEntry}{aH:List (K×Value)}{L:Nat}{hd:Option Value}{x ep:Nat}{k:K}{key:Value}{b:Bool}(h:KV knd es aH)(hk:knd.is k key=true)(hb:(valueAt aH k).isSome=b):Spec w L hd (.call (.builtin "dict.__contains__") ⟨[.ref (x+937),key],[]⟩) [(x+937,ae es ep)] (X:=Unit) (λ_ _=>True) (λ_=>.ok (.ret (.bool b))) (λ_=>[(x+937,ae es ep)]):=hb▸lf h hk
theorem gV{L:Nat}{hd:Option Value}{x ep n:Nat}{vs:List Value}(hl:vs.length≤sizeLine)(hn:vs.length=n):Spec w L hd (.call (.builtin "len") ⟨[.ref (x+937)],[]⟩) [(x+937,aa vs ep)] (X:=Tok) (λ_ _=>True) (λt=>.ok (.ret (.int (n:Nat) t))) (λ_=>[(x+937,aa vs ep)]):=hn▸uf hl
theorem lW{a b m i:Addr×Obj}{I X GG:ah}(h:GG.Perm ([a,b]++X)):([a,b,i,m]++(I++X)).Perm ([]++((I++[m,i])++GG)):=by
 have e1:([a,b,i,m]++(I++X)).Perm ([m,i]++([a,b]++(I++X))):=(List.perm_append_comm_assoc [a,b] [i,m] (I++X)).trans (List.Perm.swap _ _ _)
 refine e1.trans ?_
 show([m,i]++([a,b]++(I++X))).Perm ((I++[m,i])++GG)
 refine List.Perm.trans ?_ (List.Perm.append List.perm_append_comm h.symm)
 rw[FV]
 exact List.Perm.append_left _ (List.perm_append_comm_assoc _ _ _)
variable{x1 x3 lo s1 s2 s3 s4 q1 q2 q3 q4 q5 q6 q7 ee:Nat}{z:Value}{G:List Nd}
theorem nS{P:Params}{sl:Array (Option Value)}{ea eb ed:Nat}{es:List DictEntry}(T:List FS)(f:FS):fh P x1 x3 lo s1 s2 s3 s4 q1 q2 q3 q4 q5 q6 q7 ee z sl ea eb ed (f::T).reverse es=i0 P x1 x3 lo s1 s2 s3 s4 q1 q2 q3 q4 q5 q6 q7 ee z sl::j5 s1 s2 s4 ea eb ed (du T.reverse++[sv f.p]) (fy T.reverse++[.ref (f.mw+937)]) es:=by
 unfold fh du fy
 rw[List.reverse_cons,FM,FM]
 rfl
theorem nO{p:SV}{T':List FS}(T:List FS)(f:FS)(sl:Array (Option Value))(ea eb ed:Nat)(es4:List DictEntry)(hp:gh (f::T)=some (p,T'))(hl:(f::T).length≤sizeLine)(hG:∀f'∈f::T,f'.lst∈G.map Nd.lst)(hn:((f::T).map (·.p.1)).Nodup)(h4:KV (SK w) es4 (bU (T.reverse++[f]))):
  aR w 2 none [aU w.params lo] (lE w.params lo) (i0 w.params x1 x3 lo s1 s2 s3 s4 q1 q2 q3 q4 q5 q6 q7 ee z sl::j5 s1 s2 s4 ea eb ed (du T.reverse++[sv f.p]) (fy T.reverse++[.ref (f.mw+937)]) es4++(eU (T.reverse++[f])++GO G))
   (X:=B7) (λ_ x=>KV (SK w) x.es (bU T'.reverse)) (λ_=>.ok .next) (λx=>fh w.params x1 x3 lo s1 s2 s3 s4 q1 q2 q3 q4 q5 q6 q7 ee (sv p) x.sl x.ea x.eb x.ed T'.reverse x.es++(eU T'.reverse++GO G)):=by
 have z:=qg (w:=w) (x1:=x1) (x3:=x3) (lo:=lo) (s1:=s1) (s2:=s2) (s3:=s3) (s4:=s4) (q1:=q1) (q2:=q2) (q3:=q3) (q4:=q4) (q5:=q5) (q6:=q6) (q7:=q7) (ee:=ee) (z:=z) (f::T) sl ea eb ed es4 hp hl hG hn (by rw[List.reverse_cons];exact h4)
 rw[nS,List.reverse_cons]at z
 exact z
theorem sZ(T:List FS)(f:FS)(sl:Array (Option Value))(ea eb ed:Nat)(es4:List DictEntry)(hp:gh (f::T)=none)(hl:(f::T).length≤sizeLine)(hG:∀f'∈f::T,f'.lst∈G.map Nd.lst)(hn:((f::T).map (·.p.1)).Nodup)(h4:KV (SK w) es4 (bU (T.reverse++[f]))):
  aR w 2 none [aU w.params lo] (lE w.params lo) (i0 w.params x1 x3 lo s1 s2 s3 s4 q1 q2 q3 q4 q5 q6 q7 ee z sl::j5 s1 s2 s4 ea eb ed (du T.reverse++[sv f.p]) (fy T.reverse++[.ref (f.mw+937)]) es4++(eU (T.reverse++[f])++GO G))
   (X:=B7) (λ_ x=>KV (SK w) x.es []) (λ_=>.ok .brk) (λx=>fh w.params x1 x3 lo s1 s2 s3 s4 q1 q2 q3 q4 q5 q6 q7 ee z x.sl x.ea x.eb x.ed [] x.es++GO G):=by
 have z:=qf (w:=w) (x1:=x1) (x3:=x3) (lo:=lo) (s1:=s1) (s2:=s2) (s3:=s3) (s4:=s4) (q1:=q1) (q2:=q2) (q3:=q3) (q4:=q4) (q5:=q5) (q6:=q6) (q7:=q7) (ee:=ee) (z:=z) (f::T) sl ea eb ed es4 hp hl hG hn (by rw[List.reverse_cons];exact h4)
 rw[nS,List.reverse_cons]at z
 exact z
end
end
section
structure Ev where
 nd:SV
 sl:Array (Option Value)
 ea:Nat
 eb:Nat
 ed:Nat
 es:List DictEntry
 sd:Data
 S:Str→Bool
 n:Nat
section
variable{w:World}{x1 x3 lo s1 s2 s3 s4 q1 q2 q3 q4 q5 q6 q7 ee ep2:Nat}{G:List Nd}{es:List DictEntry}
noncomputable abbrev fU(P:Params)(x1 x3 lo s1 s2 s3 s4 q1 q2 q3 q4 q5 q6 q7 ee:Nat)(z:Value)(sl:Array (Option Value))(ea eb ed:Nat)(st:List FS)(es4:List DictEntry)(sd:Data)(es:List DictEntry)(ep2:Nat):ah:=
 [i0 P x1 x3 lo s1 s2 s3 s4 q1 q2 q3 q4 q5 q6 q7 ee z sl,(s1+937,aa (du st) ea),(s2+937,aa (fy st) eb),(s4+937,ae es4 ed),(s3+937,bL sd),(x3+937,ae es ep2)]
theorem Fh{ρ:Str→Nat}(h:KV (SK w) es (aH G))(hρ:∀v∈G,∀s∈v.ss,ρ s.1 < ρ v.S)(hcl:∀v∈G,∀s∈v.ss,s.1∈(ao G).map (·.1))(hG64:G.length≤64):
  ∀(k:Nat)(T:List FS)(nd:SV)(S:Str→Bool)(n:Nat)(sd:Data)(sl:Array (Option Value))(ea eb ed:Nat)(es4:List DictEntry),hJ T+vO S G<k→cq w sd S n→n+kZ S G≤G.length→T.length+kZ S G≤G.length→nd.1∈(ao G).map (·.1)→jG G T→ia ρ nd.1 T→KV (SK w) es4 (bU T.reverse)→
  aR w 3 none [aU w.params lo] (Ck w.params lo) (fU w.params x1 x3 lo s1 s2 s3 s4 q1 q2 q3 q4 q5 q6 q7 ee (sv nd) sl ea eb ed T.reverse es4 sd es ep2++(eU T.reverse++GO G))
   (X:=Ev) (λ_ x=>KV (SK w) x.es []∧cq w x.sd x.S x.n∧x.n+kZ x.S G≤G.length) (λ_=>.ok .next) (λx=>fU w.params x1 x3 lo s1 s2 s3 s4 q1 q2 q3 q4 q5 q6 q7 ee (sv x.nd) x.sl x.ea x.eb x.ed [] x.es x.sd es ep2++GO G):=by
 intro k
 induction k with
 |zero=>intro _ _ _ _ _ _ _ _ _ _ hk;exact absurd hk (Nat.not_lt_zero _)
 |succ k ih =>
  intro T nd S n sd sl ea eb ed es4 hk hS hn hT hnd hst hfa h4
  have hnT:(T.map (·.p.1)).Nodup:=oO (List.pairwise_cons.mp hfa).2
  have hno:nd.1∉T.map (·.p.1):=λhm=>Nat.lt_irrefl _ ((List.pairwise_cons.mp hfa).1 _ hm)
  have hc4:=uK hno
  have k6:100≤sizeLine:=by rw[sizeLine_eq];lia
  have hlT:T.length≤sizeLine:=by lia
  have hGT:=hst.lst
  cases hs:S nd.1 with
  |true =>
   cases hp:gh T with
   |none =>
    refine aZ _ _ λA R d os hb m0 g tk b outer Z F E N=>?_
    refine cx (post:=λ_=>[(s3+937,bL sd)]) (L':=0) (hd':=none) F Z 9 1331265 (a8 (t:=nd.2) hS hs) [4] λ_ m1 kk1 g1 _=>?_
    intro sS
    refine cx (post:=λ_=>[(s4+937,ae es4 ed)]) (L':=0) (hd':=none) F Z 8 1065025 (dd h4 (bw nd.1 nd.2) hc4) [3] λ_ m2 kk2 g2 _=>?_
    intro sS
    refine cm (L':=2) (hd':=none) F Z N 1 0 ([(lo+937,df (cd w.params x1 x3 s1 s2 s3 s4 q1 q2 q3 q4 q5 q6++cC w.params q7 (sv nd)) ee sl),(s1+937,aa (du T.reverse) ea),(s2+937,aa (fy T.reverse) eb),(s4+937,ae es4 ed)]) (eU T.reverse++GO G) [] (λx=>fh w.params x1 x3 lo s1 s2 s3 s4 q1 q2 q3 q4 q5 q6 q7 ee (sv nd) x.sl x.ea x.eb x.ed [] x.es) (λ_=>[]) (λx=>GO G) (aU w.params lo) (lo+937) (df (cd w.params x1 x3 s1 s2 s3 s4 q1 q2 q3 q4 q5 q6++cC w.params q7 (sv nd)) ee sl) ((qf T sl ea eb ed es4 hp hlT hGT hnT h4).convP (FL _) λn x hC=>⟨x,hC,rfl,by rw[FK]⟩) [0,1,2,3] (by rw[FK]) (.head _) λx m3 kk3 g3 hC=>?_
    intro sS
    exact fx F E 0 0 [0,1,2,3,4,5] ⟨nd,x.sl,x.ea,x.eb,x.ed,x.es,sd,S,n⟩ _ (GO G) [] (FL _) rfl ⟨hC,hS,hn⟩
   |some q =>
    obtain⟨np,T'⟩:=q
    have hr:=oN hp
    have hf':=hfa.pop hρ hst hp
    have hst':=hst.pop hp
    obtain⟨nu,hnu,hmem,_⟩:=hst.next hp
    have hT':T'.length≤T.length:=by
     obtain⟨pr,f,T0,rfl,_,rfl⟩:=bX hp
     simp
    refine aZ _ _ λA R d os hb m0 g tk b outer Z F E N=>?_
    refine cx (post:=λ_=>[(s3+937,bL sd)]) (L':=0) (hd':=none) F Z 9 1331265 (a8 (t:=nd.2) hS hs) [4] λ_ m1 kk1 g1 _=>?_
    intro sS
    refine cx (post:=λ_=>[(s4+937,ae es4 ed)]) (L':=0) (hd':=none) F Z 8 1065025 (dd h4 (bw nd.1 nd.2) hc4) [3] λ_ m2 kk2 g2 _=>?_
    intro sS
    refine cm (L':=2) (hd':=none) F Z N 1 0 ([(lo+937,df (cd w.params x1 x3 s1 s2 s3 s4 q1 q2 q3 q4 q5 q6++cC w.params q7 (sv nd)) ee sl),(s1+937,aa (du T.reverse) ea),(s2+937,aa (fy T.reverse) eb),(s4+937,ae es4 ed)]) (eU T.reverse++GO G) [] (λx=>fh w.params x1 x3 lo s1 s2 s3 s4 q1 q2 q3 q4 q5 q6 q7 ee (sv np) x.sl x.ea x.eb x.ed T'.reverse x.es) (λ_=>[]) (λx=>eU T'.reverse++GO G) (aU w.params lo) (lo+937) (df (cd w.params x1 x3 s1 s2 s3 s4 q1 q2 q3 q4 q5 q6++cC w.params q7 (sv nd)) ee sl) ((qg T sl ea eb ed es4 hp hlT hGT hnT h4).convP (FL _) λn x hC=>⟨x,hC,rfl,by rw[FK]⟩) [0,1,2,3] (by rw[FK]) (.head _) λx m3 kk3 g3 hC=>?_
    intro sS
    exact an F E Z N 0 0 (fU w.params x1 x3 lo s1 s2 s3 s4 q1 q2 q3 q4 q5 q6 q7 ee (sv np) x.sl x.ea x.eb x.ed T'.reverse x.es sd es ep2) (eU T'.reverse++GO G) [] (ih T' np S n sd x.sl x.ea x.eb x.ed x.es (by lia) hS hn (by lia) (hcl nu hnu np hmem) hst' hf' hC) [0,1,2,3,4,5] (FL _) (λhp nx H=>bx rfl H (.head _) rfl rfl rfl) (λn x' _ hC=>⟨x',hC,rfl,λ_ h=>h,id⟩)
  |false =>
   obtain⟨G₁,nv,G₂,hG,hnv⟩:=eY hnd
   have hnvG:nv∈G:=by rw[hG];exact FO _ (.head _)
   have hv:valueAt (aH G) nd.1=some (.ref (nv.a+937)):=by
    rw[←hnv,hG]
    exact e6 (hG▸h.2.2)
   have hpu:(GO G).Perm ([nv.info,nv.lst]++GO (G₁++G₂)):=hG▸jM G₁ nv G₂
   have hpg:(eU T.reverse++GO G).Perm ([nv.info,nv.lst]++(eU T.reverse++GO (G₁++G₂))):=(List.Perm.append_left _ hpu).trans (List.perm_append_comm_assoc _ _ _)
   have hlt:=mz hnvG (S:=S) (hnv▸hs)
   rw[hnv]at hlt
   have hsn:n+1<scanBound:=by
    have:100<scanBound:=by decide
    lia
   have hz1:(du T.reverse).length≤sizeLine:=by rw[FQ,List.length_reverse];exact hlT
   have hz2:(fy T.reverse).length≤sizeLine:=by rw[FQ,List.length_reverse];exact hlT
   have hl1:=hz1
   have hn1:(du T.reverse).length=T.reverse.length:=by rw[FQ]
   have hl4:(bU T.reverse).length≤sizeLine:=by rw[eD,List.length_reverse];exact hlT
   have mk4:∀(es':List DictEntry)(m:Nat)(t:Tok),KV (SK w) es' (stored (bU T.reverse) nd.1 (.int (T.reverse.length:Nat) t))→KV (SK w) es' (bU (T.reverse++[cI nd m nv t])):=λes' m t hh=>by
    rw[kU hno]at hh
    rw[dL]
    exact hh
   have mkS:∀sd',cq w sd' (λk'=>S k'||decide (k'=nd.1)) (if S nd.1 then n else n+1)→cq w sd' (fK S nd.1) (n+1):=λsd' hh=>by
    rw[hs]at hh
    exact hh
   refine aZ _ _ λA R d os hb m0 g tk b outer Z F E N=>?_
   refine cx (post:=λ_=>[(s3+937,bL sd)]) (L':=0) (hd':=none) F Z 9 1331265 (a8 (t:=nd.2) hS hs) [4] λ_ m1 kk1 g1 _=>?_
   intro sS
   refine cx (post:=λsd'=>[(s3+937,bL sd')]) (L':=0) (hd':=none) F Z 12 1158959425 (rm (k:=nd.1) (t:=nd.2) hS hsn) [4] λsd' m2 kk2 g2 hCs=>?_
   intro sS
   refine cx (L':=0) (hd':=none) F Z 21 0x1861810400030c30c1 (bl (x:=x3) (ep:=ep2) h (bw nd.1 nd.2) hv) [5] λ_ m3 kk3 g3 _=>?_
   intro sS
   refine bn [nv.info,nv.lst] _ hpg ?_
   refine cx (L':=0) (hd':=none) F Z 70 0x249249249248fc8207007000000007000000000000000007000007 (af (x:=s2) (ep:=eb) (v:=.ref (m3+938)) hz2) [2] λ_ m4 kk4 g4 _=>?_
   intro sS
   refine cx (L':=0) (hd':=none) F Z 8 4096 (gV (x:=s1) (ep:=ea) hl1 hn1) [1] λt5 m5 kk5 g5 _=>?_
   intro sS
   refine cx (L':=0) (hd':=none) F Z 8 1065025 (dx (x:=s4) (ep:=ed) (v:=.int (T.reverse.length:Nat) t5) h4 (bw nd.1 nd.2) hl4) [3] λ(y:List DictEntry×Nat)m6 kk6 g6 hC4=>?_
   intro sS
   refine cx (L':=0) (hd':=none) F Z 12 1107828865 (af (x:=s1) (ep:=ea) (v:=sv nd) hz1) [1] λ_ m7 kk7 g7 _=>?_
   intro sS
   refine da F 2 0 ?_
   intro sS
   have hk4:=mk4 y.1 m3 t5 hC4
   have hst2:jG G (cI nd m3 nv t5::T):=λf hf=>(FY.mp hf).elim (λe=>e▸⟨nv,hnvG,hnv,rfl,rfl,rfl⟩) λhf=>hst f hf
   have hS':=mkS sd' hCs
   have hpb:([nv.info,nv.lst,(m3+937,ai (nv.l+937) 0),(m3+938,jL (m3+937))]++(eU T.reverse++GO (G₁++G₂))).Perm ([]++(eU (T.reverse++[cI nd m3 nv t5])++GO G)):=by
    rw[kl]
    exact lW hpu
   have hlT:(cI nd m3 nv t5::T).length≤sizeLine:=by rw[FT];lia
   have hGT:=hst2.lst
   have hnT:((cI nd m3 nv t5::T).map (·.p.1)).Nodup:=oO (hfa.push (m:=m3) (nv:=nv) (t:=t5))
   have hrm:hJ (cI nd m3 nv t5::T)=nv.ss.length+hJ T:=rfl
   cases hp:gh (cI nd m3 nv t5::T)with
   |none =>
    refine aw [0,1,2,3,4,5] [6,7,8,9] [nv.info,nv.lst,(m3+937,ai (nv.l+937) 0),(m3+938,jL (m3+937))] [] (eU (T.reverse++[cI nd m3 nv t5])++GO G) hpb ?_
    intro sS
    refine cm (L':=2) (hd':=none) F Z N 0 0 ([(lo+937,df (cd w.params x1 x3 s1 s2 s3 s4 q1 q2 q3 q4 q5 q6++cC w.params q7 (sv nd)) ee sl),(s1+937,aa (du T.reverse++[sv nd]) (ea+1)),(s2+937,aa (fy T.reverse++[.ref (m3+938)]) (eb+1)),(s4+937,ae y.1 y.2)]) (eU (T.reverse++[cI nd m3 nv t5])++GO G) [] (λx=>fh w.params x1 x3 lo s1 s2 s3 s4 q1 q2 q3 q4 q5 q6 q7 ee (sv nd) x.sl x.ea x.eb x.ed [] x.es) (λ_=>[]) (λx=>GO G) (aU w.params lo) (lo+937) (df (cd w.params x1 x3 s1 s2 s3 s4 q1 q2 q3 q4 q5 q6++cC w.params q7 (sv nd)) ee sl) ((sZ T (cI nd m3 nv t5) sl (ea+1) (eb+1) y.2 y.1 hp hlT hGT hnT hk4).convP (FL _) λn x hC=>⟨x,hC,rfl,by rw[FK]⟩) [0,1,2,3] (by rw[FK]) (.head _) λx m8 kk8 g8 hC=>?_
    intro sS
    exact fx F E 0 0 [0,1,2,3,4,5] ⟨nd,x.sl,x.ea,x.eb,x.ed,x.es,sd',fK S nd.1,n+1⟩ _ (GO G) [] (FL _) rfl ⟨hC,hS',(show n+1+kZ (fK S nd.1) G≤G.length by lia)⟩
   |some q =>
    obtain⟨np,T'⟩:=q
    have hr:=oN hp
    have hf':ia ρ np.1 T':=by
     obtain⟨pr,f,T0,e1,hx,rfl⟩:=bX hp
     obtain⟨nu,hu,eu1,_,eu3,_⟩:=hst2 f (by rw[e1];exact FO _ (.head _))
     have lt:ρ np.1 < ρ f.p.1:=eu1▸hρ nu hu np (eu3▸List.mem_of_getElem? hx)
     have h2:=hfa.push (m:=m3) (nv:=nv) (t:=t5)
     rw[e1,FM,FR]at h2
     have h2:=(List.pairwise_append.mp h2).2.1
     show List.Pairwise _ (np.1::f.p.1::T0.map (·.p.1))
     refine List.pairwise_cons.mpr ⟨λa ha=>?_,h2⟩
     rcases FY.mp ha with rfl|ha
     ·exact lt
     ·exact Nat.lt_trans lt ((List.pairwise_cons.mp h2).1 a ha)
    have hst':=hst2.pop hp
    obtain⟨nu,hnu,hmem,_⟩:=hst2.next hp
    have hT':T'.length≤T.length+1:=by
     obtain⟨pr,f,T0,e1,_,rfl⟩:=bX hp
     have:=congrArg List.length e1
     simp only[FT,FZ]at this⊢
     lia
    refine aw [0,1,2,3,4,5] [6,7,8,9] [nv.info,nv.lst,(m3+937,ai (nv.l+937) 0),(m3+938,jL (m3+937))] [] (eU (T.reverse++[cI nd m3 nv t5])++GO G) hpb ?_
    intro sS
    refine cm (L':=2) (hd':=none) F Z N 0 0 ([(lo+937,df (cd w.params x1 x3 s1 s2 s3 s4 q1 q2 q3 q4 q5 q6++cC w.params q7 (sv nd)) ee sl),(s1+937,aa (du T.reverse++[sv nd]) (ea+1)),(s2+937,aa (fy T.reverse++[.ref (m3+938)]) (eb+1)),(s4+937,ae y.1 y.2)]) (eU (T.reverse++[cI nd m3 nv t5])++GO G) [] (λx=>fh w.params x1 x3 lo s1 s2 s3 s4 q1 q2 q3 q4 q5 q6 q7 ee (sv np) x.sl x.ea x.eb x.ed T'.reverse x.es) (λ_=>[]) (λx=>eU T'.reverse++GO G) (aU w.params lo) (lo+937) (df (cd w.params x1 x3 s1 s2 s3 s4 q1 q2 q3 q4 q5 q6++cC w.params q7 (sv nd)) ee sl) ((nO T (cI nd m3 nv t5) sl (ea+1) (eb+1) y.2 y.1 hp hlT hGT hnT hk4).convP (FL _) λn x hC=>⟨x,hC,rfl,by rw[FK]⟩) [0,1,2,3] (by rw[FK]) (.head _) λx m8 kk8 g8 hC=>?_
    intro sS
    exact an F E Z N 0 0 (fU w.params x1 x3 lo s1 s2 s3 s4 q1 q2 q3 q4 q5 q6 q7 ee (sv np) x.sl x.ea x.eb x.ed T'.reverse x.es sd' es ep2) (eU T'.reverse++GO G) [] (ih T' np (fK S nd.1) (n+1) sd' x.sl x.ea x.eb x.ed x.es (by lia) hS' (by lia) (by lia) (hcl nu hnu np hmem) hst' hf' hC) [0,1,2,3,4,5] (FL _) (λhp nx H=>bx rfl H (.head _) rfl rfl rfl) (λn x' _ hC=>⟨x',hC,rfl,λ_ h=>h,id⟩)
end
end
section
open AutoSeq1 (wpAny_loadPart')
noncomputable abbrev hK(lo hi st:Value):Obj:=⟨.type "slice",none,.fields ⟨[lo,hi,st]⟩,⟨[]⟩⟩
theorem jf(l sl:Addr)(items:Array Value)(n:Nat){vl vu vs:Value}{lo hi st:Option Int}(pl:IsPart vl lo)(pu:IsPart vu hi)(ps:IsPart vs st)(h0:st≠some 0)(hsz:items.size≤sizeLine):
  Meets (Builtin.«list.__getitem__» ⟨[.ref l,.ref sl],[]⟩)
   (λ_ R s=>s.heap.IsList l items∧s.heap.IsSliceOf sl vl vu vs∧R (.ok (.ret (.ref s.heap.objs.size))) {s with heap:=s.heap.push {cls:=.type "list",data:=.seq (slicePick items lo hi st)}}):=
 .of_wp λprog w A R s⟨hl,hs,h⟩=>by
  obtain⟨o,ho,hc,ne,hd⟩:=id hl
  obtain⟨os,hos,hcs,hds⟩:=id hs
  have hTs:s.TypeIs (.ref sl) "slice":=⟨os,hos,hcs⟩
  show wpAny _ _ (Builtin.List.listSubscript? (.ref sl)>>=_) _ _ s
  refine wpAny_bind ?_
  unfold Builtin.List.listSubscript?
  refine wpAny_bind (wpAny_specialOf hTs slice_no_index ?_)
  simp only[Option.isNone_none,if_true]
  refine wpAny_pure ?_
  show wpAny _ _ (typeOf (.ref sl)>>=_) _ _ s
  refine wpAny_bind (wpAny_typeOf hTs ?_)
  rw[if_neg (by decide)]
  rw[listSliceParts_eq]
  have hstep:¬((rawPart st==rawInt 0)=true):=by
   cases st with
   |none=>exact Bool.false_ne_true
   |some c =>
    intro hh
    have:c=0:=by simpa [rawPart,rawInt]using hh
    exact h0 (by rw[this])
  refine wpAny_bind (wpAny_bind (wpAny_field hos hds (x:=vs) rfl (wpAny_bind (wpAny_listPart ps ?_))))
  rw[if_neg hstep]
  refine wpAny_bind (wpAny_field hos hds (x:=vl) rfl (wpAny_bind (wpAny_listPart pl ?_)))
  refine wpAny_bind (wpAny_field hos hds (x:=vu) rfl (wpAny_bind (wpAny_listPart pu (wpAny_pure ?_))))
  refine wpAny_bind (m:=Builtin.List.listItems (.ref l)) ?_
  unfold Builtin.List.listItems
  refine wpAny_bind (wpAny_seqItems ho hd (wpAny_pure ?_))
  refine wpAny_bind (wpAny_of_eq (sliceIndices_raw lo hi st items.size h0) ?_)
  refine wpAny_bind (wpAny_newObj_type (wpAny_pure ⟨_,rfl,h⟩) (Nat.le_trans (slicePick_size_le items lo hi st) hsz))
theorem lX{w:World}{hp:Heap}{g:GB}{d:Drawn}{tk:Nat}{os:OsState}{pre:ah}{o:Obj}(hf:o.isFreed=false)(hst:cb w hp)(hpre:k8 hp pre)(nd:(pre.map (·.1)).Nodup):
  bj d os hp hp.objs.size (md (pre.map (·.1))) (λ_(_:Nat)=>True) (λn=>.ok (.ret (.ref (n+937)))) (λn=>pre++[(n+937,o)]) (.ok (.ret (.ref hp.objs.size))) ⟨hp.push o,g,d,tk,os⟩:=by
 obtain⟨m,hm⟩:∃m,hp.objs.size=m+937:=⟨hp.objs.size-937,by have:=aV w hp hst;omega⟩
 refine⟨m,_,tk,g,by rw[hm],trivial,λp hp'=>?_,λp hp'=>?_,?_,λb o' e hb=>a6 (Heap.get?_push_of_some _ e),by rw[Heap.size_push];exact Nat.le_succ _⟩
 ·rcases F0.mp hp' with q|q
  ·exact Heap.get?_push_of_some _ (hpre p q)
  ·cases FW.mp q
   rw[←hm]
   exact Heap.get?_push_size _ hf
 ·rcases F0.mp hp' with q|q
  ·exact .inl (FP q)
  ·cases FW.mp q
   exact .inr (Nat.le_of_eq hm)
 ·rw[FM]
  refine List.nodup_append.mpr ⟨nd,by simp,λa ha b hb e=>?_⟩
  cases FW.mp hb
  obtain⟨p,hp',rfl⟩:=FX.mp ha
  exact absurd (Heap.lt_size (hpre p hp')) (by rw[e,hm];exact Nat.lt_irrefl _)
section
variable{w:World}{L:Nat}{hd:Option Value}{x y ep ep':Nat}{vs us:List Value}
theorem kq{vl vu vt:Value}{lo hi st:Option Int}(pl:IsPart vl lo)(pu:IsPart vu hi)(ps:IsPart vt st)(h0:st≠some 0)(hsz:vs.length≤sizeLine):Spec w L hd (.call (.builtin "list.__getitem__") ⟨[.ref (x+937),.ref (y+937)],[]⟩) [(x+937,aa vs ep),(y+937,hK vl vu vt)] (X:=Nat) (λ_ _=>True) (λn=>.ok (.ret (.ref (n+937))))
  (λn=>[(x+937,aa vs ep),(y+937,hK vl vu vt)]++[(n+937,aa (slicePick ⟨vs⟩ lo hi st).toList 0)]):=
 aq F.slot_list_getitem F.entry_list_getitem (F.args_list_getitem_2 _ _) ((jf (x+937) (y+937) ⟨vs⟩ ep pl pu ps h0 (by simpa using hsz)).inModel pw w) λA hp g d tk os hA hst hpre nd=>by
  have h:=hpre _ (.head _)
  have h2:=hpre _ (.tail _ (.head _))
  have hl:=dT h
  refine⟨hl.typeIs,hl,⟨_,h2,rfl,rfl⟩,?_⟩
  have e:({cls:=.type "list",data:=.seq (slicePick ⟨vs⟩ lo hi st)}:Obj)=aa (slicePick ⟨vs⟩ lo hi st).toList 0:=by rw[be]
  rw[e]
  exact lX rfl hst hpre nd
theorem iy(hz:vs.length+us.length≤sizeLine):Spec w L hd (.call (.builtin "list.__add__") ⟨[.ref (x+937),.ref (y+937)],[]⟩) [(x+937,aa vs ep),(y+937,aa us ep')] (X:=Nat) (λ_ _=>True) (λn=>.ok (.ret (.ref (n+937))))
  (λn=>[(x+937,aa vs ep),(y+937,aa us ep')]++[(n+937,aa (vs++us) 0)]):=
 aq F.slot_list_add F.entry_list_add (F.args_list_add_2 _ _) ((AutoSeq1.list___add___list_list_0 (x+937) ⟨vs⟩ ep (y+937) ⟨us⟩ ep' (by simpa using hz)).inModel pw w) λA hp g d tk os hA hst hpre nd=>by
  have h:=hpre _ (.head _)
  have h2:=hpre _ (.tail _ (.head _))
  have hl:=dT h
  have h':=h
  have h2':=h2
  rw[be]at h' h2'
  refine⟨hl.typeIs,h',h2',?_⟩
  have e:({cls:=.type "list",data:=.seq (⟨vs⟩++⟨us⟩)}:Obj)=aa (vs++us) 0:=by rw[be];simp
  rw[e]
  exact lX rfl hst hpre nd
end
end
section
structure Ew where
 nd:SV
 sl:Array (Option Value)
 y:Nat
 vs:List Value
theorem uL{T:List FS}{k:Str}(h:k∈T.map (·.p.1)):∃(n:Nat)(t:Tok),valueAt (bU T.reverse) k=some (.int (n:Nat) t):=by
 have h':k∈(bU T.reverse).map (·.1):=by rw[fB,List.map_reverse,List.mem_reverse];exact h
 unfold valueAt
 cases hf:(bU T.reverse).find? (λkv=>decide (kv.1=k))with
 |none =>
  obtain⟨p,hp,e⟩:=FX.mp h'
  exact absurd (decide_eq_true e) (List.find?_eq_none.mp hf p hp)
 |some p =>
  have hp:=List.mem_of_find?_eq_some hf
  unfold bU at hp
  obtain⟨q,_,rfl⟩:=FX.mp hp
  exact⟨q.2,q.1.t,rfl⟩
section
variable{w:World}{x1 x3 lo s1 s2 s3 s4 q1 q2 q3 q4 q5 q6 q7 ee ep2:Nat}{G:List Nd}{es:List DictEntry}
theorem Fi(h:KV (SK w) es (aH G))(hne:∀v∈G,v.ss≠[])(hcl:∀v∈G,∀s∈v.ss,s.1∈(ao G).map (·.1))(hG64:G.length≤64):
  ∀(k:Nat)(T:List FS)(nd:SV)(S:Str→Bool)(c:Nat)(sd:Data)(sl:Array (Option Value))(ea eb ed:Nat)(es4:List DictEntry),kZ S G<k→cq w sd S c→c+kZ S G≤G.length→T.length+kZ S G≤G.length→nd.1∈(ao G).map (·.1)→jG G T→(∀s,S s=true↔s∈T.map (·.p.1))→(T.map (·.p.1)).Nodup→KV (SK w) es4 (bU T.reverse)→
  aR w 3 none [aU w.params lo] (Ck w.params lo) (fU w.params x1 x3 lo s1 s2 s3 s4 q1 q2 q3 q4 q5 q6 q7 ee (sv nd) sl ea eb ed T.reverse es4 sd es ep2++(eU T.reverse++GO G))
   (X:=Ew) (λ_ x=>x.vs≠[]∧x.vs.length≤sizeLine) (λx=>.ok (.ret (.ref (x.y+937)))) (λx=>[i0 w.params x1 x3 lo s1 s2 s3 s4 q1 q2 q3 q4 q5 q6 q7 ee (sv x.nd) x.sl,(x3+937,ae es ep2),(x.y+937,aa x.vs 0)]++GO G):=by
 intro k
 induction k with
 |zero=>intro _ _ _ _ _ _ _ _ _ _ hk;exact absurd hk (Nat.not_lt_zero _)
 |succ k ih =>
  intro T nd S c sd sl ea eb ed es4 hk hS hn hT hnd hst hST hnT h4
  have k6:100≤sizeLine:=by rw[sizeLine_eq];lia
  have hlT:T.length≤sizeLine:=by lia
  cases hs:S nd.1 with
  |true =>
   obtain⟨n,t3,hv4⟩:=uL ((hST nd.1).mp hs)
   have hc4:(valueAt (bU T.reverse) nd.1).isSome=true:=by rw[hv4];rfl
   have hz1:(du T.reverse).length≤sizeLine:=by rw[FQ,List.length_reverse];exact hlT
   have hz2:(slicePick ⟨du T.reverse⟩ (some (n:Nat)) none none).toList.length+[sv nd].length≤sizeLine:=by
    have h1:=slicePick_size_le ⟨du T.reverse⟩ (some (n:Nat)) none none
    have h2:(⟨du T.reverse⟩:Array Value).size=T.length:=by show(du T.reverse).length=_;rw[FQ,List.length_reverse]
    rw[Array.length_toList]
    simp only[FT,List.length_nil]
    lia
   refine aZ _ _ λA R d os hb m0 g tk b outer Z F E N=>?_
   refine cx (post:=λ_=>[(s3+937,bL sd)]) (L':=0) (hd':=none) F Z 9 1331265 (a8 (t:=nd.2) hS hs) [4] λ_ m1 kk1 g1 _=>?_
   intro sS
   refine cx (post:=λ_=>[(s4+937,ae es4 ed)]) (L':=0) (hd':=none) F Z 8 1065025 (dd h4 (bw nd.1 nd.2) hc4) [3] λ_ m2 kk2 g2 _=>?_
   intro sS
   refine cx (L':=0) (hd':=none) F Z 11 4363128897 (bl (x:=s4) (ep:=ed) h4 (bw nd.1 nd.2) hv4) [3] λ_ m3 kk3 g3 _=>?_
   intro sS
   refine cx (post:=λy1=>[(s1+937,aa (du T.reverse) ea),(m3+937,hK (.int (n:Nat) t3) .none .none)]++[(y1+937,aa (slicePick ⟨du T.reverse⟩ (some (n:Nat)) none none).toList 0)]) (L':=0) (hd':=none) F Z 5 8322 (kq (x:=s1) (ep:=ea) (y:=m3) (.int _ _) .none .none (by simp) hz1) [1,6] λy1 m4 kk4 g4 _=>?_
   intro sS
   refine cx (L':=0) (hd':=none) F Z 10 2134529 (iy (x:=y1) (ep:=0) (y:=m4) (ep':=0) (vs:=(slicePick ⟨du T.reverse⟩ (some (n:Nat)) none none).toList) (us:=[sv nd]) hz2) [7,8] λy2 m5 kk5 g5 _=>?_
   intro sS
   exact fx F E 1 0 [0,5,9] ⟨nd,sl,y2,(slicePick ⟨du T.reverse⟩ (some (n:Nat)) none none).toList++[sv nd]⟩ _ (GO G) (eU T.reverse) List.perm_append_comm rfl ⟨by simp,by rw[FZ];exact hz2⟩
  |false =>
   obtain⟨G₁,nv,G₂,hG,hnv⟩:=eY hnd
   have hnvG:nv∈G:=by rw[hG];exact FO _ (.head _)
   have hv:valueAt (aH G) nd.1=some (.ref (nv.a+937)):=by
    rw[←hnv,hG]
    exact e6 (hG▸h.2.2)
   have hpu:(GO G).Perm ([nv.info,nv.lst]++GO (G₁++G₂)):=hG▸jM G₁ nv G₂
   have hpg:(eU T.reverse++GO G).Perm ([nv.info,nv.lst]++(eU T.reverse++GO (G₁++G₂))):=(List.Perm.append_left _ hpu).trans (List.perm_append_comm_assoc _ _ _)
   have hlt:=mz hnvG (S:=S) (hnv▸hs)
   rw[hnv]at hlt
   have hno:nd.1∉T.map (·.p.1):=λhm=>by rw[(hST nd.1).mpr hm]at hs;cases hs
   obtain⟨np,ss',hss⟩:∃np ss',nv.ss=np::ss':=by
    cases hc:nv.ss with
    |nil=>exact absurd hc (hne nv hnvG)
    |cons a b=>exact⟨a,b,rfl⟩
   have hsn:c+1<scanBound:=by
    have:100<scanBound:=by decide
    lia
   have hz1:(du T.reverse).length≤sizeLine:=by rw[FQ,List.length_reverse];exact hlT
   have hz2:(fy T.reverse).length≤sizeLine:=by rw[FQ,List.length_reverse];exact hlT
   have hl1:=hz1
   have hn1:(du T.reverse).length=T.reverse.length:=by rw[FQ]
   have hl4:(bU T.reverse).length≤sizeLine:=by rw[eD,List.length_reverse];exact hlT
   have mk4:∀(es':List DictEntry)(m:Nat)(t:Tok),KV (SK w) es' (stored (bU T.reverse) nd.1 (.int (T.reverse.length:Nat) t))→KV (SK w) es' (bU (T.reverse++[cI nd m nv t])):=λes' m t hh=>by
    rw[kU hno]at hh
    rw[dL]
    exact hh
   have mkS:∀sd',cq w sd' (λk'=>S k'||decide (k'=nd.1)) (if S nd.1 then c else c+1)→cq w sd' (fK S nd.1) (c+1):=λsd' hh=>by
    rw[hs]at hh
    exact hh
   refine aZ _ _ λA R d os hb m0 g tk b outer Z F E N=>?_
   refine cx (post:=λ_=>[(s3+937,bL sd)]) (L':=0) (hd':=none) F Z 9 1331265 (a8 (t:=nd.2) hS hs) [4] λ_ m1 kk1 g1 _=>?_
   intro sS
   refine cx (post:=λsd'=>[(s3+937,bL sd')]) (L':=0) (hd':=none) F Z 12 1158959425 (rm (k:=nd.1) (t:=nd.2) hS hsn) [4] λsd' m2 kk2 g2 hCs=>?_
   intro sS
   refine cx (L':=0) (hd':=none) F Z 21 0x1861810400030c30c1 (bl (x:=x3) (ep:=ep2) h (bw nd.1 nd.2) hv) [5] λ_ m3 kk3 g3 _=>?_
   intro sS
   refine bn [nv.info,nv.lst] _ hpg ?_
   refine cx (L':=0) (hd':=none) F Z 70 0x249249249248fc8207007000000007000000000000000007000007 (af (x:=s2) (ep:=eb) (v:=.ref (m3+938)) hz2) [2] λ_ m4 kk4 g4 _=>?_
   intro sS
   refine cx (L':=0) (hd':=none) F Z 8 4096 (gV (x:=s1) (ep:=ea) hl1 hn1) [1] λt5 m5 kk5 g5 _=>?_
   intro sS
   refine cx (L':=0) (hd':=none) F Z 8 1065025 (dx (x:=s4) (ep:=ed) (v:=.int (T.reverse.length:Nat) t5) h4 (bw nd.1 nd.2) hl4) [3] λ(y:List DictEntry×Nat)m6 kk6 g6 hC4=>?_
   intro sS
   refine cx (L':=0) (hd':=none) F Z 12 1107828865 (af (x:=s1) (ep:=ea) (v:=sv nd) hz1) [1] λ_ m7 kk7 g7 _=>?_
   intro sS
   refine da F 2 0 ?_
   intro sS
   have hk4:=mk4 y.1 m3 t5 hC4
   have hst2:jG G (cI nd m3 nv t5::T):=λf hf=>(FY.mp hf).elim (λe=>e▸⟨nv,hnvG,hnv,rfl,rfl,rfl⟩) λhf=>hst f hf
   have hS':=mkS sd' hCs
   have hpb:([nv.info,nv.lst,(m3+937,ai (nv.l+937) 0),(m3+938,jL (m3+937))]++(eU T.reverse++GO (G₁++G₂))).Perm ([]++(eU (T.reverse++[cI nd m3 nv t5])++GO G)):=by
    rw[kl]
    exact lW hpu
   have hlT:(cI nd m3 nv t5::T).length≤sizeLine:=by rw[FT];lia
   have hGT:=hst2.lst
   have hnT2:((cI nd m3 nv t5::T).map (·.p.1)).Nodup:=List.nodup_cons.mpr ⟨hno,hnT⟩
   have hp:gh (cI nd m3 nv t5::T)=some (np,{cI nd m3 nv t5 with i:=0+1}::T):=by
    unfold gh
    simp only[hss,List.getElem?_cons_zero]
   have hst':=hst2.pop hp
   obtain⟨nu,hnu,hmem,_⟩:=hst2.next hp
   refine aw [0,1,2,3,4,5] [6,7,8,9] [nv.info,nv.lst,(m3+937,ai (nv.l+937) 0),(m3+938,jL (m3+937))] [] (eU (T.reverse++[cI nd m3 nv t5])++GO G) hpb ?_
   intro sS
   refine cm (L':=2) (hd':=none) F Z N 0 0 ([(lo+937,df (cd w.params x1 x3 s1 s2 s3 s4 q1 q2 q3 q4 q5 q6++cC w.params q7 (sv nd)) ee sl),(s1+937,aa (du T.reverse++[sv nd]) (ea+1)),(s2+937,aa (fy T.reverse++[.ref (m3+938)]) (eb+1)),(s4+937,ae y.1 y.2)]) (eU (T.reverse++[cI nd m3 nv t5])++GO G) [] (λx=>fh w.params x1 x3 lo s1 s2 s3 s4 q1 q2 q3 q4 q5 q6 q7 ee (sv np) x.sl x.ea x.eb x.ed ({cI nd m3 nv t5 with i:=0+1}::T).reverse x.es) (λ_=>[]) (λx=>eU ({cI nd m3 nv t5 with i:=0+1}::T).reverse++GO G) (aU w.params lo) (lo+937) (df (cd w.params x1 x3 s1 s2 s3 s4 q1 q2 q3 q4 q5 q6++cC w.params q7 (sv nd)) ee sl) ((nO T (cI nd m3 nv t5) sl (ea+1) (eb+1) y.2 y.1 hp hlT hGT hnT2 hk4).convP (FL _) λn x hC=>⟨x,hC,rfl,by rw[FK]⟩) [0,1,2,3] (by rw[FK]) (.head _) λx m8 kk8 g8 hC=>?_
   intro sS
   exact an F E Z N 0 0 (fU w.params x1 x3 lo s1 s2 s3 s4 q1 q2 q3 q4 q5 q6 q7 ee (sv np) x.sl x.ea x.eb x.ed ({cI nd m3 nv t5 with i:=0+1}::T).reverse x.es sd' es ep2) (eU ({cI nd m3 nv t5 with i:=0+1}::T).reverse++GO G) [] (ih ({cI nd m3 nv t5 with i:=0+1}::T) np (fK S nd.1) (c+1) sd' x.sl x.ea x.eb x.ed x.es (by lia) hS' (by lia) (by rw[FT];lia) (hcl nu hnu np hmem) hst' (λs=>by
    show(S s||decide (s=nd.1))=true↔s∈nd.1::T.map (·.p.1)
    rw[Bool.or_eq_true,hST s,decide_eq_true_iff,FY]
    exact Or.comm) hnT2 hC) [0,1,2,3,4,5] (FL _) (λhp nx H=>bx rfl H (.head _) rfl rfl rfl) (λn x' _ hC=>⟨x',hC,rfl,λ_ h=>h,id⟩) (by kernel_rfl) (by kernel_rfl) (by kernel_rfl) (by kernel_rfl)
end
end
noncomputable abbrev lF(P:Params)(x1 x3 q1 q2 q3 q4 q5 q6:Nat)(z1 z2 z3 z4:Value):List DictEntry:=[de P U2 q1 (.ref (x1+937)),de P (u [110,111,100,101,115]) q2 z1,de P Cf q3 (.ref (x3+937)),de P yP q4 z2,de P E1 q5 z3,de P (u [115,116,97,116]) q6 z4]
noncomputable abbrev j6(P:Params):Option (Tok×Value×Tok×Value)→List DictEntry
 |none=>[]
 |some (q7,z5,q8,z6)=>[de P (u [115,117,99,99,101,115,115,111,114]) q7 z5,de P (u [115,117,99,99,101,115,115,111,114,95,105,110,102,111]) q8 z6]
noncomputable abbrev aQ(P:Params)(x1 x2 x3 x4 k1 k2 k3 k4 t3 t4 ep:Nat)(out fin:Int):ah:=[(x1+937,ap 167 (x2+937)),(x2+937,au P k1 k2 k3 k4 t3 t4 (x3+937) (.ref (x4+937)) out fin ep)]
noncomputable abbrev za(P:Params)(y1 lo:Nat):Code:=cF (br (ir (br (aE (az (aj 10) 7)) 2)) 4) (.ref (y1+937)) (bH 150 (zs P) lo)
noncomputable def qr(k k':Nat)(v v':Value):Option (Tok×Value×Tok×Value)→Option (Tok×Value×Tok×Value)
 |none=>some (k,v,k',v')
 |some (q,_,q',_)=>some (q,v,q',v')
noncomputable def Cm(e:Nat):Option (Tok×Value×Tok×Value)→Nat
 |none=>e+1+1
 |some _=>e
structure fH where
 G:List Nd
 rl:List SV
 mo:Option (Tok×Value×Tok×Value)
 ep:Nat
 ep4:Nat
 j:Nat
theorem aN{α:Type}{l:List α}{i:Nat}{p:α}{rem:List α}(h:l.drop i=p::rem):l[i]?=some p∧l.drop (i+1)=rem:=by
 refine⟨?_,?_⟩
 ·have:=List.getElem?_drop (xs:=l) (i:=i) (j:=0)
  rw[h]at this
  simpa using this.symm
 ·rw[←List.drop_drop,h]
  rfl
theorem qv(w:World)(x1 x2 x3 x4 y1 lo k1 k2 k3 k4 t3 t4 ep ep2 q1 q2 q3 q4 q5 q6:Nat)(z1 z2 z3 z4:Value)(out fin:Int)(es:List DictEntry)(nv:Nd):∀(rem:List SV)(i:Nat)(G:List Nd)(rl:List SV)(mo:Option (Tok×Value×Tok×Value))(ep5 ep4:Nat),
  nv.ss.drop i=rem→KV (SK w) es (aH G)→nv.lst∈G.map Nd.lst→(∀p∈rem,p.1∈(ao G).map (·.1))→rl.length+rem.length≤sizeLine→
  Spec w 1 none (za w.params y1 lo) ([(y1+937,ai (nv.l+937) i),(lo+937,e7 (lF w.params x1 x3 q1 q2 q3 q4 q5 q6 z1 z2 z3 z4++j6 w.params mo) ep5)]++aQ w.params x1 x2 x3 x4 k1 k2 k3 k4 t3 t4 ep out fin++[(x3+937,ae es ep2),(x4+937,aa (rl.map sv) ep4)]++GO G)
   (X:=fH) (λ_ x=>aH x.G=aH G∧(ao x.G,x.rl.map (·.1))=(rem.map (·.1)).foldl cj (ao G,rl.map (·.1))) (λ_=>.ok .next)
   (λx=>[(y1+937,av x.j),(lo+937,e7 (lF w.params x1 x3 q1 q2 q3 q4 q5 q6 z1 z2 z3 z4++j6 w.params x.mo) x.ep)]++aQ w.params x1 x2 x3 x4 k1 k2 k3 k4 t3 t4 ep out fin++[(x3+937,ae es ep2),(x4+937,aa (x.rl.map sv) x.ep4)]++GO x.G):=by
 intro rem
 induction rem with
 |nil =>
  intro i G rl mo ep5 ep4 hr h hn hm hl
  obtain⟨frL,hpl⟩:=ms hn
  have hx:(nv.ss.map sv)[i]?=none:=by
   rw[List.getElem?_eq_none]
   rw[FQ]
   exact List.drop_eq_nil_iff.mp hr
  refine aA _ _ λA R d os hb m0 g tk b Z F E=>?_
  refine cf (L':=0) (hd':=none) F Z 2 1 ([(y1+937,ai (nv.l+937) i)]) ([nv.lst]) (frL) (λnn=>[(y1+937,av i)]) (λnn=>[(nn+937,aW []),(nn+938,b8 (nn+937))]) (λnn=>[nv.lst]) (ov (y:=y1) (x:=nv.l) (i:=i) (ep:=nv.ep) hx) [0] (hpl) λnn m1 kk1 g1 _=>?_
  intro sS
  exact fx F E 2 8 [0,1,2,3,4,5] ⟨G,rl,mo,ep5,ep4,i⟩ _ (GO G) [] (by rw[FK];exact hpl.symm) rfl ⟨rfl,rfl⟩
 |cons p rem ih =>
  intro i G rl mo ep5 ep4 hr h hn hm hl
  obtain⟨frL,hpl⟩:=ms hn
  obtain⟨hx0,hr'⟩:=aN hr
  have hx:(nv.ss.map sv)[i]?=some (sv p):=by rw[List.getElem?_map,hx0];rfl
  obtain⟨G₁,nu,G₂,rfl,hS⟩:=eY (hm p (.head _))
  have hnd:((aH (G₁++nu::G₂)).map (·.1)).Nodup:=h.2.2
  have hv:valueAt (aH (G₁++nu::G₂)) p.1=some (.ref (nu.a+937)):=hS▸e6 hnd
  have hpu:=hpl.symm.trans (dv G₁ nu G₂)
  have hrs:(rl.map sv).length≤sizeLine:=by rw[FQ];lia
  refine aA _ _ λA R d os hb m0 g tk b Z F E=>?_
  have hb5:∀nu':Nd,nu'.S=nu.S→nu'.a=nu.a→aH (G₁++nu'::G₂)=aH (G₁++nu::G₂):=λnu' e1 e2=>by rw[bt,bt,iw,iw,e1,e2]
  have hb6:∀nu':Nd,nu'.lst=nu.lst→nv.lst∈(G₁++nu'::G₂).map Nd.lst:=λnu' e=>by
   rw[FM,FR]at hn⊢
   rw[e]
   exact hn
  rcases mo with _|⟨q7,z5,q8,z6⟩
  ·skip
   by_cases hz:nu.n-1=0
   ·skip
    refine cf (L':=0) (hd':=none) F Z 2 1 ([(y1+937,ai (nv.l+937) i)]) ([nv.lst]) (frL) (λ_=>[(y1+937,ai (nv.l+937) (i+1))]) (λ_=>[]) (λ_=>[nv.lst]) (am (y:=y1) (x:=nv.l) (i:=i) (ep:=nv.ep) hx) [0] (hpl) λ_ m1 kk1 g1 _=>?_
    intro sS
    refine cx (L':=0) (hd':=none) F Z 16 349050511490 (bl (x:=x3) (ep:=ep2) h (bw p.1 p.2) hv) [4] λ_ m2 kk2 g2 _=>?_
    intro sS
    refine bn [nu.info] _ hpu ?_
    refine sx F 131 0x3f1c01c00000001c00000000000000001c00001c21c01c00000001c00000000000070070070000071c01c00000001c00000000000000001c00001c2082 (by kernel_rfl) (by kernel_rfl) (aL (decide (nu.n-1=0))) (aL true) (by kernel_rfl) (by rw[decide_eq_true hz]) ?_
    refine cx (L':=0) (hd':=none) F Z 30 0x861861840030c00000c00000c2 (af (x:=x4) (ep:=ep4) (v:=sv p) hrs) [5] λ_ m3 kk3 g3 _=>?_
    intro sS
    have e1:=hb5 {nu with n:=nu.n-1,t':=kk2+3} rfl rfl
    refine da F 1 0 ?_
    intro sS
    refine aw [0,1,2,3,4,5] [6] [Nd.info {nu with n:=nu.n-1,t':=kk2+3}] [] (GO (G₁++{nu with n:=nu.n-1,t':=kk2+3}::G₂)) (dv G₁ {nu with n:=nu.n-1,t':=kk2+3} G₂).symm ?_
    intro sS
    have z:=ih (i+1) (G₁++{nu with n:=nu.n-1,t':=kk2+3}::G₂) (rl++[p]) (qr kk1 kk2 (sv p) (.ref (nu.a+937)) none) (Cm ep5 none) (ep4+1) hr' (by rw[e1];exact h) (hb6 _ rfl) (λq hq=>by rw[dV e1];exact hm q (.tail _ hq)) (by rw[FZ];simp only[FT,List.length_nil]at hl⊢;lia)
    rw[FM (f:=sv) (l₁:=rl) (l₂:=[p])]at z
    refine ax F E Z 0 0 _ (GO (G₁++{nu with n:=nu.n-1,t':=kk2+3}::G₂)) [] z [0,1,2,3,4,5] (by rw[FK]) (λ_ x _ hC=>⟨x,⟨hC.1.trans e1,?_⟩,rfl,λ_ h=>h,id⟩)
    refine hC.2.trans ?_
    rw[FR,List.foldl_cons,gv hnd hS (kk2+3),if_pos hz,FM]
    rfl
   ·skip
    refine cf (L':=0) (hd':=none) F Z 2 1 ([(y1+937,ai (nv.l+937) i)]) ([nv.lst]) (frL) (λ_=>[(y1+937,ai (nv.l+937) (i+1))]) (λ_=>[]) (λ_=>[nv.lst]) (am (y:=y1) (x:=nv.l) (i:=i) (ep:=nv.ep) hx) [0] (hpl) λ_ m1 kk1 g1 _=>?_
    intro sS
    refine cx (L':=0) (hd':=none) F Z 16 349050511490 (bl (x:=x3) (ep:=ep2) h (bw p.1 p.2) hv) [4] λ_ m2 kk2 g2 _=>?_
    intro sS
    refine bn [nu.info] _ hpu ?_
    refine sx F 131 0x3f1c01c00000001c00000000000000001c00001c21c01c00000001c00000000000070070070000071c01c00000001c00000000000000001c00001c2082 (by kernel_rfl) (by kernel_rfl) (aL (decide (nu.n-1=0))) (aL false) (by kernel_rfl) (by rw[decide_eq_false hz]) ?_
    have e1:=hb5 {nu with n:=nu.n-1,t':=kk2+3} rfl rfl
    refine da F 1 0 ?_
    intro sS
    refine aw [0,1,2,3,4,5] [6] [Nd.info {nu with n:=nu.n-1,t':=kk2+3}] [] (GO (G₁++{nu with n:=nu.n-1,t':=kk2+3}::G₂)) (dv G₁ {nu with n:=nu.n-1,t':=kk2+3} G₂).symm ?_
    intro sS
    refine ax F E Z 0 0 _ (GO (G₁++{nu with n:=nu.n-1,t':=kk2+3}::G₂)) [] (ih (i+1) _ rl (qr kk1 kk2 (sv p) (.ref (nu.a+937)) none) (Cm ep5 none) ep4 hr' (by rw[e1];exact h) (hb6 _ rfl) (λq hq=>by rw[dV e1];exact hm q (.tail _ hq)) (by simp only[FT]at hl⊢;lia)) [0,1,2,3,4,5] (by rw[FK]) (λ_ x _ hC=>⟨x,⟨hC.1.trans e1,?_⟩,rfl,λ_ h=>h,id⟩)
    refine hC.2.trans ?_
    rw[FR,List.foldl_cons,gv hnd hS (kk2+3),if_neg hz]
  ·skip
   by_cases hz:nu.n-1=0
   ·skip
    refine cf (L':=0) (hd':=none) F Z 2 1 ([(y1+937,ai (nv.l+937) i)]) ([nv.lst]) (frL) (λ_=>[(y1+937,ai (nv.l+937) (i+1))]) (λ_=>[]) (λ_=>[nv.lst]) (am (y:=y1) (x:=nv.l) (i:=i) (ep:=nv.ep) hx) [0] (hpl) λ_ m1 kk1 g1 _=>?_
    intro sS
    refine cx (L':=0) (hd':=none) F Z 16 349050511490 (bl (x:=x3) (ep:=ep2) h (bw p.1 p.2) hv) [4] λ_ m2 kk2 g2 _=>?_
    intro sS
    refine bn [nu.info] _ hpu ?_
    refine sx F 131 0x3f1c01c00000001c00000000000000001c00001c21c01c00000001c00000000000070070070000071c01c00000001c00000000000000001c00001c2082 (by kernel_rfl) (by kernel_rfl) (aL (decide (nu.n-1=0))) (aL true) (by kernel_rfl) (by rw[decide_eq_true hz]) ?_
    refine cx (L':=0) (hd':=none) F Z 30 0x861861840030c00000c00000c2 (af (x:=x4) (ep:=ep4) (v:=sv p) hrs) [5] λ_ m3 kk3 g3 _=>?_
    intro sS
    have e1:=hb5 {nu with n:=nu.n-1,t':=kk2+3} rfl rfl
    refine da F 1 0 ?_
    intro sS
    refine aw [0,1,2,3,4,5] [6] [Nd.info {nu with n:=nu.n-1,t':=kk2+3}] [] (GO (G₁++{nu with n:=nu.n-1,t':=kk2+3}::G₂)) (dv G₁ {nu with n:=nu.n-1,t':=kk2+3} G₂).symm ?_
    intro sS
    have z:=ih (i+1) (G₁++{nu with n:=nu.n-1,t':=kk2+3}::G₂) (rl++[p]) (qr kk1 kk2 (sv p) (.ref (nu.a+937)) (some (q7,z5,q8,z6))) (Cm ep5 (some (q7,z5,q8,z6))) (ep4+1) hr' (by rw[e1];exact h) (hb6 _ rfl) (λq hq=>by rw[dV e1];exact hm q (.tail _ hq)) (by rw[FZ];simp only[FT,List.length_nil]at hl⊢;lia)
    rw[FM (f:=sv) (l₁:=rl) (l₂:=[p])]at z
    refine ax F E Z 0 0 _ (GO (G₁++{nu with n:=nu.n-1,t':=kk2+3}::G₂)) [] z [0,1,2,3,4,5] (by rw[FK]) (λ_ x _ hC=>⟨x,⟨hC.1.trans e1,?_⟩,rfl,λ_ h=>h,id⟩)
    refine hC.2.trans ?_
    rw[FR,List.foldl_cons,gv hnd hS (kk2+3),if_pos hz,FM]
    rfl
   ·skip
    refine cf (L':=0) (hd':=none) F Z 2 1 ([(y1+937,ai (nv.l+937) i)]) ([nv.lst]) (frL) (λ_=>[(y1+937,ai (nv.l+937) (i+1))]) (λ_=>[]) (λ_=>[nv.lst]) (am (y:=y1) (x:=nv.l) (i:=i) (ep:=nv.ep) hx) [0] (hpl) λ_ m1 kk1 g1 _=>?_
    intro sS
    refine cx (L':=0) (hd':=none) F Z 16 349050511490 (bl (x:=x3) (ep:=ep2) h (bw p.1 p.2) hv) [4] λ_ m2 kk2 g2 _=>?_
    intro sS
    refine bn [nu.info] _ hpu ?_
    refine sx F 131 0x3f1c01c00000001c00000000000000001c00001c21c01c00000001c00000000000070070070000071c01c00000001c00000000000000001c00001c2082 (by kernel_rfl) (by kernel_rfl) (aL (decide (nu.n-1=0))) (aL false) (by kernel_rfl) (by rw[decide_eq_false hz]) ?_
    have e1:=hb5 {nu with n:=nu.n-1,t':=kk2+3} rfl rfl
    refine da F 1 0 ?_
    intro sS
    refine aw [0,1,2,3,4,5] [6] [Nd.info {nu with n:=nu.n-1,t':=kk2+3}] [] (GO (G₁++{nu with n:=nu.n-1,t':=kk2+3}::G₂)) (dv G₁ {nu with n:=nu.n-1,t':=kk2+3} G₂).symm ?_
    intro sS
    refine ax F E Z 0 0 _ (GO (G₁++{nu with n:=nu.n-1,t':=kk2+3}::G₂)) [] (ih (i+1) _ rl (qr kk1 kk2 (sv p) (.ref (nu.a+937)) (some (q7,z5,q8,z6))) (Cm ep5 (some (q7,z5,q8,z6))) ep4 hr' (by rw[e1];exact h) (hb6 _ rfl) (λq hq=>by rw[dV e1];exact hm q (.tail _ hq)) (by simp only[FT]at hl⊢;lia)) [0,1,2,3,4,5] (by rw[FK]) (λ_ x _ hC=>⟨x,⟨hC.1.trans e1,?_⟩,rfl,λ_ h=>h,id⟩)
    refine hC.2.trans ?_
    rw[FR,List.foldl_cons,gv hnd hS (kk2+3),if_neg hz]
noncomputable abbrev k5:=Option (Tok×Value)
noncomputable abbrev yf(P:Params):k5→List DictEntry
 |none=>[]
 |some (q,z)=>[de P (u [105]) q z]
noncomputable def oI(k:Tok)(v:Value):k5→k5|none=>some (k,v)|some (q,_)=>some (q,v)
noncomputable def xd(e:Nat):k5→Nat|none=>e+1|some _=>e
theorem fA(k:Tok)(v:Value)(o:k5):(oI k v o).isSome=true:=by cases o<;>rfl
noncomputable def bG(A:List AN):List Str:=(A.filter λa=>a.2.1==0).map (·.1)
structure Ao where
 rl:List SV
 o:k5
 ea:Nat
 ec:Nat
 io:Nat
noncomputable abbrev qW:Expr:=eJ (br (aE (az (aj 10) 3)) 1)
noncomputable abbrev uP(P:Params)(y1 ac lo lc:Nat):Code:=.compLoop qW 0 (.ref (y1+937)) (.ref (ac+937)) (fL qW (bH 122 (sm P) lo) lc)
noncomputable abbrev sp(P:Params)(y1 ac lo lc:Nat):Code:=.compStart qW 0 (.ref (y1+937)) (.ref (ac+937)) (fL qW (bH 122 (sm P) lo) lc)
theorem pH{w:World}{es:List DictEntry}{G:List Nd}(h:KV (SK w) es (aH G)){i:Nat}{nu:Nd}(hg:G[i]?=some nu):∃e,es[i]?=some e∧e.val=.ref (nu.a+937)∧∃t,e.key=.str nu.S t:=by
 have hk:(aH G)[i]?=some (nu.S,.ref (nu.a+937)):=by unfold aH;rw[List.getElem?_map,hg];rfl
 have hl:es.length=(aH G).length:=by have:=h.2.1.length;simpa using this
 have hi:i<es.length:=by rw[hl];exact(List.getElem?_eq_some_iff.mp hk).1
 have he:es[i]?=some es[i]:=List.getElem?_eq_getElem hi
 obtain⟨h1,h2⟩:=Pairs.get? h.2.1 he hk
 refine⟨es[i],he,h2,?_⟩
 revert h1
 cases es[i].key<;>intro h1<;>first|(cases h1;done)|skip
 rename_i s t
 exact⟨t,by rw[show s=nu.S from eq_of_beq (show(s==nu.S)=true from h1)]⟩
theorem t6{w:World}{es:List DictEntry}{G:List Nd}(h:KV (SK w) es (aH G)):es.length=G.length:=by
 have:=h.2.1.length
 unfold aH at this
 rw[FQ]at this
 exact this
theorem sq(w:World)(x3 y1 ac lo lc ep2:Nat)(es:List DictEntry)(G:List Nd)(h:KV (SK w) es (aH G)):∀(rem:List Nd)(i:Nat)(rl:List SV)(o:k5)(ea ec:Nat),
  G.drop i=rem→rl.length+rem.length≤sizeLine→
  Spec w 1 none (uP w.params y1 ac lo lc) ([(y1+937,bR (x3+937) i es.length ep2),(x3+937,ae es ep2),(ac+937,aa (rl.map sv) ea),(lc+937,ae (yf w.params o) ec)]++GO G)
   (X:=Ao) (λ_ x=>x.rl.map (·.1)=rl.map (·.1)++bG (ao rem)∧((o.isSome=true∨rem≠[])→x.o.isSome=true)) (λ_=>.ok .next)
   (λx=>[(y1+937,d9 x.io es.length ep2),(x3+937,ae es ep2),(ac+937,aa (x.rl.map sv) x.ea),(lc+937,ae (yf w.params x.o) x.ec)]++GO G):=by
 intro rem
 induction rem with
 |nil =>
  intro i rl o ea ec hr hl
  have hx:es[i]?=none:=by
   rw[List.getElem?_eq_none]
   rw[t6 h]
   exact List.drop_eq_nil_iff.mp hr
  refine aA _ _ λA R d os hb m0 g tk b Z F E=>?_
  refine cx (L':=0) (hd':=none) F Z 2 1 (tE (y:=y1) (x:=x3) (ep:=ep2) hx) [0,1] λnn m1 kk1 g1 _=>?_
  intro sS
  exact fx F E 1 6 [0,1,2,3] ⟨rl,o,ea,ec,i⟩ _ (GO G) [] (by rw[FK]) rfl ⟨(FK _).symm,λq=>q.elim id λz=>absurd rfl z⟩
 |cons nu rem ih =>
  intro i rl o ea ec hr hl
  obtain⟨hx0,hr'⟩:=aN hr
  obtain⟨e,hx,hv,_⟩:=pH h hx0
  obtain⟨G₁,G₂,hG⟩:=List.append_of_mem (List.mem_of_getElem? hx0)
  have hpu:(GO G).Perm ([nu.info]++(GO G₁++nu.lst::GO G₂)):=hG▸dv G₁ nu G₂
  have hrs:(rl.map sv).length≤sizeLine:=by rw[FQ];rw[FT]at hl;lia
  refine aA _ _ λA R d os hb m0 g tk b Z F E=>?_
  rcases o with _|⟨q1,z1⟩
  ·skip
   cases hc:nu.n==0
   ·have hz:aL (nu.n==0)=aL false:=by rw[hc]
    refine cx (L':=0) (hd':=none) F Z 2 1 (fi (y:=y1) (x:=x3) (ep:=ep2) hx) [0,1] λ_ m1 kk1 g1 _=>?_
    show Gd _ _
    rw[hv]
    refine bn [nu.info] _ hpu ?_
    refine sx F 49 0x3f140140000000140000000000000000140000144104 (by kernel_rfl) (by kernel_rfl) (aL (nu.n==0)) (aL false) (by kernel_rfl) (hz) ?_
    refine da F 1 0 ?_
    intro sS
    refine aw [0,1,2,3] [4] [nu.info] [] (GO G) hpu.symm ?_
    intro sS
    refine ax F E Z 0 0 _ (GO G) [] (ih (i+1) rl (oI kk1 (.ref (nu.a+937)) none) ea (xd ec none) hr' (by rw[FT]at hl;lia)) [0,1,2,3] (by rw[FK]) (λ_ x _ hC=>⟨x,⟨hC.1.trans ?_,λ_=>hC.2 (.inl (fA _ _ _))⟩,rfl,λ_ h=>h,id⟩)
    unfold bG
    rw[bM,List.filter_cons_of_neg (by rw[show nu.abs.2.1=nu.n from rfl,hc];exact Bool.false_ne_true)]
   ·have hz:aL (nu.n==0)=aL true:=by rw[hc]
    refine cx (L':=0) (hd':=none) F Z 2 1 (fi (y:=y1) (x:=x3) (ep:=ep2) hx) [0,1] λ_ m1 kk1 g1 _=>?_
    show Gd _ _
    rw[hv]
    refine bn [nu.info] _ hpu ?_
    refine sx F 49 0x3f140140000000140000000000000000140000144104 (by kernel_rfl) (by kernel_rfl) (aL (nu.n==0)) (aL true) (by kernel_rfl) (hz) ?_
    refine cx (L':=0) (hd':=none) F Z 38 0x140140000000140000000000000000140000144 (af (x:=ac) (ep:=ea) (v:=.str nu.S nu.t) hrs) [2] λ_ m2 kk2 g2 _=>?_
    intro sS
    refine da F 0 0 ?_
    intro sS
    refine aw [0,1,2,3] [4] [nu.info] [] (GO G) hpu.symm ?_
    intro sS
    have z:=ih (i+1) (rl++[(nu.S,nu.t)]) (oI kk1 (.ref (nu.a+937)) none) (ea+1) (xd ec none) hr' (by rw[FZ];simp only[FT,List.length_nil]at hl⊢;lia)
    rw[FM (f:=sv) (l₁:=rl) (l₂:=[(nu.S,nu.t)])]at z
    refine ax F E Z 0 0 _ (GO G) [] z [0,1,2,3] (by rw[FK]) (λ_ x _ hC=>⟨x,⟨hC.1.trans ?_,λ_=>hC.2 (.inl (fA _ _ _))⟩,rfl,λ_ h=>h,id⟩)
    unfold bG
    rw[bM,List.filter_cons_of_pos (by rw[show nu.abs.2.1=nu.n from rfl,hc]),FM,FV]
    rfl
  ·skip
   cases hc:nu.n==0
   ·have hz:aL (nu.n==0)=aL false:=by rw[hc]
    refine cx (L':=0) (hd':=none) F Z 2 1 (fi (y:=y1) (x:=x3) (ep:=ep2) hx) [0,1] λ_ m1 kk1 g1 _=>?_
    show Gd _ _
    rw[hv]
    refine bn [nu.info] _ hpu ?_
    refine sx F 49 0x3f140140000000140000000000000000140000144104 (by kernel_rfl) (by kernel_rfl) (aL (nu.n==0)) (aL false) (by kernel_rfl) (hz) ?_
    refine da F 1 0 ?_
    intro sS
    refine aw [0,1,2,3] [4] [nu.info] [] (GO G) hpu.symm ?_
    intro sS
    refine ax F E Z 0 0 _ (GO G) [] (ih (i+1) rl (oI kk1 (.ref (nu.a+937)) (some (q1,z1))) ea (xd ec (some (q1,z1))) hr' (by rw[FT]at hl;lia)) [0,1,2,3] (by rw[FK]) (λ_ x _ hC=>⟨x,⟨hC.1.trans ?_,λ_=>hC.2 (.inl (fA _ _ _))⟩,rfl,λ_ h=>h,id⟩)
    unfold bG
    rw[bM,List.filter_cons_of_neg (by rw[show nu.abs.2.1=nu.n from rfl,hc];exact Bool.false_ne_true)]
   ·have hz:aL (nu.n==0)=aL true:=by rw[hc]
    refine cx (L':=0) (hd':=none) F Z 2 1 (fi (y:=y1) (x:=x3) (ep:=ep2) hx) [0,1] λ_ m1 kk1 g1 _=>?_
    show Gd _ _
    rw[hv]
    refine bn [nu.info] _ hpu ?_
    refine sx F 49 0x3f140140000000140000000000000000140000144104 (by kernel_rfl) (by kernel_rfl) (aL (nu.n==0)) (aL true) (by kernel_rfl) (hz) ?_
    refine cx (L':=0) (hd':=none) F Z 38 0x140140000000140000000000000000140000144 (af (x:=ac) (ep:=ea) (v:=.str nu.S nu.t) hrs) [2] λ_ m2 kk2 g2 _=>?_
    intro sS
    refine da F 0 0 ?_
    intro sS
    refine aw [0,1,2,3] [4] [nu.info] [] (GO G) hpu.symm ?_
    intro sS
    have z:=ih (i+1) (rl++[(nu.S,nu.t)]) (oI kk1 (.ref (nu.a+937)) (some (q1,z1))) (ea+1) (xd ec (some (q1,z1))) hr' (by rw[FZ];simp only[FT,List.length_nil]at hl⊢;lia)
    rw[FM (f:=sv) (l₁:=rl) (l₂:=[(nu.S,nu.t)])]at z
    refine ax F E Z 0 0 _ (GO G) [] z [0,1,2,3] (by rw[FK]) (λ_ x _ hC=>⟨x,⟨hC.1.trans ?_,λ_=>hC.2 (.inl (fA _ _ _))⟩,rfl,λ_ h=>h,id⟩)
    unfold bG
    rw[bM,List.filter_cons_of_pos (by rw[show nu.abs.2.1=nu.n from rfl,hc]),FM,FV]
    rfl
section
theorem eT{w:World}{L:Nat}{hd:Option Value}{y x i ep:Nat}{es:List DictEntry}{e:DictEntry}{k:Value}(hx:es[i]?=some e)(hk:e.key=k):Spec w L hd (.call (.builtin "dict_keyiterator.__next__") ⟨[.ref (y+937)],[]⟩) [(y+937,aT (x+937) i es.length ep),(x+937,ae es ep)] (X:=Unit) (λ_ _=>True) (λ_=>.ok (.ret k)) (λ_=>[(y+937,aT (x+937) (i+1) es.length ep),(x+937,ae es ep)]):=hk▸im hx
noncomputable abbrev uA(P:Params):k5→List DictEntry
 |none=>[]
 |some (q,z)=>cC P q z
structure Eu where
 o:k5
 ee:Nat
 sl:Array (Option Value)
section
variable{w:World}{x1 x3 lo s1 s2 s3 s4 q1 q2 q3 q4 q5 q6 q7 ee ep2 y1 ea eb ed n:Nat}{G:List Nd}{es es4:List DictEntry}{nd:SV}{S:Str→Bool}{sd:Data}{sl:Array (Option Value)}
theorem Am{ρ:Str→Nat}(h:KV (SK w) es (aH G))(hρ:∀v∈G,∀s∈v.ss,ρ s.1 < ρ v.S)(hcl:∀v∈G,∀s∈v.ss,s.1∈(ao G).map (·.1))(hG64:G.length≤64)(hS:cq w sd S n)(hn:n+kZ S G≤G.length)(hnd:nd.1∈(ao G).map (·.1))(h4:KV (SK w) es4 []):
  aR w 3 none [aU w.params lo] (Ck w.params lo) (fU w.params x1 x3 lo s1 s2 s3 s4 q1 q2 q3 q4 q5 q6 q7 ee (sv nd) sl ea eb ed [] es4 sd es ep2++GO G)
   (X:=Ev) (λ_ x=>KV (SK w) x.es []∧cq w x.sd x.S x.n∧x.n+kZ x.S G≤G.length) (λ_=>.ok .next) (λx=>fU w.params x1 x3 lo s1 s2 s3 s4 q1 q2 q3 q4 q5 q6 q7 ee (sv x.nd) x.sl x.ea x.eb x.ed [] x.es x.sd es ep2++GO G):=
 Fh h hρ hcl hG64 (vO S G+1) [] nd S n sd sl ea eb ed es4 (by show 0+vO S G<_;lia) hS hn (by show 0+kZ S G≤_;lia) hnd (λ_ hf=>by cases hf) (by unfold ia;simp) h4
theorem Cu(h:KV (SK w) es (aH G))(hne:∀v∈G,v.ss≠[])(hcl:∀v∈G,∀s∈v.ss,s.1∈(ao G).map (·.1))(hG64:G.length≤64)(hS:cq w sd S 0)(hS0:∀s,S s=false)(hnd:nd.1∈(ao G).map (·.1))(h4:KV (SK w) es4 []):
  aR w 3 none [aU w.params lo] (Ck w.params lo) (fU w.params x1 x3 lo s1 s2 s3 s4 q1 q2 q3 q4 q5 q6 q7 ee (sv nd) sl ea eb ed [] es4 sd es ep2++GO G)
   (X:=Ew) (λ_ x=>x.vs≠[]∧x.vs.length≤sizeLine) (λx=>.ok (.ret (.ref (x.y+937)))) (λx=>[i0 w.params x1 x3 lo s1 s2 s3 s4 q1 q2 q3 q4 q5 q6 q7 ee (sv x.nd) x.sl,(x3+937,ae es ep2),(x.y+937,aa x.vs 0)]++GO G):=
 Fi h hne hcl hG64 (kZ S G+1) [] nd S 0 sd sl ea eb ed es4 (Nat.lt_succ_self _) hS (by have:=nI S G;lia) (by have:=nI S G;show 0+kZ S G≤_;lia) hnd (λ_ hf=>by cases hf) (λs=>by rw[hS0 s];simp) List.nodup_nil h4
noncomputable abbrev E6(P:Params)(lo y1:Nat):Code:=cF Bb (.ref (y1+937)) (aU P lo)
noncomputable abbrev x6(P:Params)(x1 x3 lo s1 s2 s3 s4 q1 q2 q3 q4 q5 q6:Nat)(o:k5)(ee:Nat)(sl:Array (Option Value)):Addr×Obj:=(lo+937,df (cd P x1 x3 s1 s2 s3 s4 q1 q2 q3 q4 q5 q6++uA P o) ee sl)
noncomputable abbrev lD(P:Params)(x1 x3 lo s1 s2 s3 s4 q1 q2 q3 q4 q5 q6:Nat)(o:k5)(ee:Nat)(sl:Array (Option Value))(ea eb ed:Nat)(es4:List DictEntry)(sd:Data)(es:List DictEntry)(ep2:Nat)(y1:Nat)(it:Obj):ah:=
 [x6 P x1 x3 lo s1 s2 s3 s4 q1 q2 q3 q4 q5 q6 o ee sl,(s1+937,aa [] ea),(s2+937,aa [] eb),(s4+937,ae es4 ed),(s3+937,bL sd),(x3+937,ae es ep2),(y1+937,it)]
theorem Ff{ρ:Str→Nat}(h:KV (SK w) es (aH G))(hρ:∀v∈G,∀s∈v.ss,ρ s.1 < ρ v.S)(hcl:∀v∈G,∀s∈v.ss,s.1∈(ao G).map (·.1))(hG64:G.length≤64):
  ∀(rem:List Nd)(i:Nat)(o:k5)(ee:Nat)(sl:Array (Option Value))(ea eb ed:Nat)(es4:List DictEntry)(sd:Data)(S:Str→Bool)(n:Nat),G.drop i=rem→cq w sd S n→n+kZ S G≤G.length→KV (SK w) es4 []→
  aR w 4 none [aU w.params lo] (E6 w.params lo y1) (lD w.params x1 x3 lo s1 s2 s3 s4 q1 q2 q3 q4 q5 q6 o ee sl ea eb ed es4 sd es ep2 y1 (aT (x3+937) i es.length ep2)++GO G)
   (X:=Eu) (λ_ _=>True) (λ_=>.ok .next) (λx=>[x6 w.params x1 x3 lo s1 s2 s3 s4 q1 q2 q3 q4 q5 q6 x.o x.ee x.sl,(x3+937,ae es ep2)]++GO G):=by
 obtain⟨v,b1,b2,b3,rfl⟩:=al w
 intro rem
 induction rem with
 |nil =>
  intro i o ee sl ea eb ed es4 sd S n hr hS hn h4
  have hx:es[i]?=none:=by
   rw[List.getElem?_eq_none]
   rw[t6 h]
   exact List.drop_eq_nil_iff.mp hr
  refine aZ _ _ λA R d os hb m0 g tk b outer Z F E N=>?_
  rcases o with _|⟨q7,z1⟩
  ·skip
   refine cx (L':=0) (hd':=none) F Z 2 7 (pA (y:=y1) (x:=x3) (ep:=ep2) hx) [6,5] λnn m1 kk1 g1 _=>?_
   intro sS
   exact fx F E 2 9 [0,5] ⟨none,ee,sl⟩ _ (GO G) [] (by rw[FK]) rfl trivial
  ·skip
   refine cx (L':=0) (hd':=none) F Z 2 7 (pA (y:=y1) (x:=x3) (ep:=ep2) hx) [6,5] λnn m1 kk1 g1 _=>?_
   intro sS
   exact fx F E 2 9 [0,5] ⟨some (q7,z1),ee,sl⟩ _ (GO G) [] (by rw[FK]) rfl trivial
 |cons nu rem ih =>
  intro i o ee sl ea eb ed es4 sd S n hr hS hn h4
  obtain⟨hx0,hr'⟩:=aN hr
  obtain⟨e,hx,hv,kt,hkey⟩:=pH h hx0
  have hnu:nu∈G:=List.mem_of_getElem? hx0
  have hnd:(nu.S,kt).1∈(ao G).map (·.1):=by
   unfold ao
   rw[List.map_map]
   exact FP (f:=(λx:AN=>x.1)∘Nd.abs) hnu
  refine aZ _ _ λA R d os hb m0 g tk b outer Z F E N=>?_
  have hw:∀{hp:Heap}{nx:Nat}{ll:ah}{o:k5}{ee:Nat}{sl:Array (Option Value)},aI (bo (ay v b1 b2 b3)) hb m0 hp ll nx→x6 (ay v b1 b2 b3).params x1 x3 lo s1 s2 s3 s4 q1 q2 q3 q4 q5 q6 o ee sl∈ll→cQ (ay v b1 b2 b3) hp [aU (ay v b1 b2 b3).params lo]:=λH hm=>bx rfl H hm rfl rfl rfl
  cases hs:S nu.S with
  |true =>
   rcases o with _|⟨q7,z1⟩
   ·skip
    refine cx (L':=0) (hd':=none) F Z 2 7 (eT (y:=y1) (x:=x3) (ep:=ep2) hx hkey) [6,5] λ_ m1 kk1 g1 _=>?_
    intro sS
    refine cx (post:=λ_=>[(s3+937,bL sd)]) (L':=0) (hd':=none) F Z 15 5452861505 (a8 (t:=kt) hS hs) [4] λ_ m2 kk2 g2 _=>?_
    intro sS
    exact an F E Z N 1 0 (lD (ay v b1 b2 b3).params x1 x3 lo s1 s2 s3 s4 q1 q2 q3 q4 q5 q6 (some (kk1,sv (nu.S,kt))) (ee+1) sl ea eb ed es4 sd es ep2 y1 (aT (x3+937) (i+1) es.length ep2)) (GO G) [] (ih (i+1) (some (kk1,sv (nu.S,kt))) (ee+1) sl ea eb ed es4 sd S n hr' hS hn h4) [0,1,2,3,4,5,6] (by rw[FK]) (λhp nx H=>hw H (.head _)) (λn x' _ hC=>⟨x',hC,rfl,λ_ h=>h,id⟩)
   ·skip
    refine cx (L':=0) (hd':=none) F Z 2 7 (eT (y:=y1) (x:=x3) (ep:=ep2) hx hkey) [6,5] λ_ m1 kk1 g1 _=>?_
    intro sS
    refine cx (post:=λ_=>[(s3+937,bL sd)]) (L':=0) (hd':=none) F Z 15 5452861505 (a8 (t:=kt) hS hs) [4] λ_ m2 kk2 g2 _=>?_
    intro sS
    exact an F E Z N 1 0 (lD (ay v b1 b2 b3).params x1 x3 lo s1 s2 s3 s4 q1 q2 q3 q4 q5 q6 (some (q7,sv (nu.S,kt))) ee sl ea eb ed es4 sd es ep2 y1 (aT (x3+937) (i+1) es.length ep2)) (GO G) [] (ih (i+1) (some (q7,sv (nu.S,kt))) ee sl ea eb ed es4 sd S n hr' hS hn h4) [0,1,2,3,4,5,6] (by rw[FK]) (λhp nx H=>hw H (.head _)) (λn x' _ hC=>⟨x',hC,rfl,λ_ h=>h,id⟩)
  |false =>
   rcases o with _|⟨q7,z1⟩
   ·skip
    refine cx (L':=0) (hd':=none) F Z 2 7 (eT (y:=y1) (x:=x3) (ep:=ep2) hx hkey) [6,5] λ_ m1 kk1 g1 _=>?_
    intro sS
    refine cx (post:=λ_=>[(s3+937,bL sd)]) (L':=0) (hd':=none) F Z 15 5452861505 (a8 (t:=kt) hS hs) [4] λ_ m2 kk2 g2 _=>?_
    intro sS
    refine cm (L':=3) (hd':=none) F Z N 1 0 ([(lo+937,df (cd (ay v b1 b2 b3).params x1 x3 s1 s2 s3 s4 q1 q2 q3 q4 q5 q6++cC (ay v b1 b2 b3).params kk1 (sv (nu.S,kt))) (ee+1) sl),(s1+937,aa [] ea),(s2+937,aa [] eb),(s4+937,ae es4 ed),(s3+937,bL sd),(x3+937,ae es ep2)]) (GO G) [] (λx=>fU (ay v b1 b2 b3).params x1 x3 lo s1 s2 s3 s4 q1 q2 q3 q4 q5 q6 kk1 (ee+1) (sv x.nd) x.sl x.ea x.eb x.ed [] x.es x.sd es ep2) (λ_=>[]) (λx=>GO G) (aU (ay v b1 b2 b3).params lo) (lo+937) (df (cd (ay v b1 b2 b3).params x1 x3 s1 s2 s3 s4 q1 q2 q3 q4 q5 q6++cC (ay v b1 b2 b3).params kk1 (sv (nu.S,kt))) (ee+1) sl) ((Am (nd:=(nu.S,kt)) (q7:=kk1) (ee:=(ee+1)) h hρ hcl hG64 hS hn hnd h4).convP (FL _) λn x hC=>⟨x,hC,rfl,by rw[FK]⟩) [0,1,2,3,4,5] (by rw[FK]) (.head _) λx m3 kk3 g3 hC=>?_
    intro sS
    exact an F E Z N 0 0 (lD (ay v b1 b2 b3).params x1 x3 lo s1 s2 s3 s4 q1 q2 q3 q4 q5 q6 (some (kk1,sv x.nd)) (ee+1) x.sl x.ea x.eb x.ed x.es x.sd es ep2 y1 (aT (x3+937) (i+1) es.length ep2)) (GO G) [] (ih (i+1) (some (kk1,sv x.nd)) (ee+1) x.sl x.ea x.eb x.ed x.es x.sd x.S x.n hr' hC.2.1 hC.2.2 hC.1) [0,1,2,3,4,5,6] (FL _) (λhp nx H=>hw H (.head _)) (λn x' _ hC=>⟨x',hC,rfl,λ_ h=>h,id⟩)
   ·skip
    refine cx (L':=0) (hd':=none) F Z 2 7 (eT (y:=y1) (x:=x3) (ep:=ep2) hx hkey) [6,5] λ_ m1 kk1 g1 _=>?_
    intro sS
    refine cx (post:=λ_=>[(s3+937,bL sd)]) (L':=0) (hd':=none) F Z 15 5452861505 (a8 (t:=kt) hS hs) [4] λ_ m2 kk2 g2 _=>?_
    intro sS
    refine cm (L':=3) (hd':=none) F Z N 1 0 ([(lo+937,df (cd (ay v b1 b2 b3).params x1 x3 s1 s2 s3 s4 q1 q2 q3 q4 q5 q6++cC (ay v b1 b2 b3).params q7 (sv (nu.S,kt))) ee sl),(s1+937,aa [] ea),(s2+937,aa [] eb),(s4+937,ae es4 ed),(s3+937,bL sd),(x3+937,ae es ep2)]) (GO G) [] (λx=>fU (ay v b1 b2 b3).params x1 x3 lo s1 s2 s3 s4 q1 q2 q3 q4 q5 q6 q7 ee (sv x.nd) x.sl x.ea x.eb x.ed [] x.es x.sd es ep2) (λ_=>[]) (λx=>GO G) (aU (ay v b1 b2 b3).params lo) (lo+937) (df (cd (ay v b1 b2 b3).params x1 x3 s1 s2 s3 s4 q1 q2 q3 q4 q5 q6++cC (ay v b1 b2 b3).params q7 (sv (nu.S,kt))) ee sl) ((Am (nd:=(nu.S,kt)) (q7:=q7) (ee:=ee) h hρ hcl hG64 hS hn hnd h4).convP (FL _) λn x hC=>⟨x,hC,rfl,by rw[FK]⟩) [0,1,2,3,4,5] (by rw[FK]) (.head _) λx m3 kk3 g3 hC=>?_
    intro sS
    exact an F E Z N 0 0 (lD (ay v b1 b2 b3).params x1 x3 lo s1 s2 s3 s4 q1 q2 q3 q4 q5 q6 (some (q7,sv x.nd)) ee x.sl x.ea x.eb x.ed x.es x.sd es ep2 y1 (aT (x3+937) (i+1) es.length ep2)) (GO G) [] (ih (i+1) (some (q7,sv x.nd)) ee x.sl x.ea x.eb x.ed x.es x.sd x.S x.n hr' hC.2.1 hC.2.2 hC.1) [0,1,2,3,4,5,6] (FL _) (λhp nx H=>hw H (.head _)) (λn x' _ hC=>⟨x',hC,rfl,λ_ h=>h,id⟩)
theorem Fg(h:KV (SK w) es (aH G))(hne:∀v∈G,v.ss≠[])(hG:G≠[])(hcl:∀v∈G,∀s∈v.ss,s.1∈(ao G).map (·.1))(hG64:G.length≤64)(hS:cq w sd S 0)(hS0:∀s,S s=false)(h4:KV (SK w) es4 []):
  aR w 4 none [aU w.params lo] (E6 w.params lo y1) (lD w.params x1 x3 lo s1 s2 s3 s4 q1 q2 q3 q4 q5 q6 none ee sl ea eb ed es4 sd es ep2 y1 (aT (x3+937) 0 es.length ep2)++GO G)
   (X:=Eu×Nat×List Value) (λ_ x=>x.2.2≠[]∧x.2.2.length≤sizeLine) (λx=>.ok (.ret (.ref (x.2.1+937)))) (λx=>[x6 w.params x1 x3 lo s1 s2 s3 s4 q1 q2 q3 q4 q5 q6 x.1.o x.1.ee x.1.sl,(x3+937,ae es ep2),(x.2.1+937,aa x.2.2 0)]++GO G):=by
 obtain⟨v,b1,b2,b3,rfl⟩:=al w
 obtain⟨nu,G',hGe⟩:∃nu G',G=nu::G':=by
  cases G with
  |nil=>exact absurd rfl hG
  |cons a b=>exact⟨a,b,rfl⟩
 have hx0:G[0]?=some nu:=by rw[hGe];rfl
 obtain⟨e,hx,hv,kt,hkey⟩:=pH h hx0
 have hs:=hS0 nu.S
 have hnu:nu∈G:=List.mem_of_getElem? hx0
 have hnd:(nu.S,kt).1∈(ao G).map (·.1):=by
  unfold ao
  rw[List.map_map]
  exact FP (f:=(λx:AN=>x.1)∘Nd.abs) hnu
 refine aZ _ _ λA R d os hb m0 g tk b outer Z F E N=>?_
 refine cx (L':=0) (hd':=none) F Z 2 7 (eT (y:=y1) (x:=x3) (ep:=ep2) hx hkey) [6,5] λ_ m1 kk1 g1 _=>?_
 intro sS
 refine cx (post:=λ_=>[(s3+937,bL sd)]) (L':=0) (hd':=none) F Z 15 5452861505 (a8 (t:=kt) hS hs) [4] λ_ m2 kk2 g2 _=>?_
 intro sS
 refine da F 1 0 ?_
 intro sS
 refine aw [0,5] [1,2,3,4,6] [(s1+937,aa [] ea),(s2+937,aa [] eb),(s4+937,ae es4 ed),(s3+937,bL sd),(y1+937,aT (x3+937) (0+1) es.length ep2)] [] ([(s1+937,aa [] ea),(s2+937,aa [] eb),(s4+937,ae es4 ed),(s3+937,bL sd)]++GO G++[(y1+937,aT (x3+937) (0+1) es.length ep2)]) (List.Perm.append_left [(s1+937,aa [] ea),(s2+937,aa [] eb),(s4+937,ae es4 ed),(s3+937,bL sd)] (List.perm_append_comm (l₁:=[(y1+937,aT (x3+937) (0+1) es.length ep2)]) (l₂:=GO G))) ?_
 intro sS
 refine cm (L':=3) (hd':=none) F Z N 0 0 ([(lo+937,df (cd (ay v b1 b2 b3).params x1 x3 s1 s2 s3 s4 q1 q2 q3 q4 q5 q6++cC (ay v b1 b2 b3).params kk1 (sv (nu.S,kt))) (ee+1) sl),(x3+937,ae es ep2)]) ([(s1+937,aa [] ea),(s2+937,aa [] eb),(s4+937,ae es4 ed),(s3+937,bL sd)]++GO G) [(y1+937,aT (x3+937) (0+1) es.length ep2)] (λx=>[(lo+937,df (cd (ay v b1 b2 b3).params x1 x3 s1 s2 s3 s4 q1 q2 q3 q4 q5 q6++cC (ay v b1 b2 b3).params kk1 (sv x.nd)) (ee+1) x.sl),(x3+937,ae es ep2)]) (λx=>[(x.y+937,aa x.vs 0)]) (λx=>GO G) (aU (ay v b1 b2 b3).params lo) (lo+937) (df (cd (ay v b1 b2 b3).params x1 x3 s1 s2 s3 s4 q1 q2 q3 q4 q5 q6++cC (ay v b1 b2 b3).params kk1 (sv (nu.S,kt))) (ee+1) sl) ((Cu (nd:=(nu.S,kt)) (q7:=kk1) (ee:=(ee+1)) h hne hcl hG64 hS hS0 hnd h4).convP (List.Perm.append_right _ (List.Perm.cons _ (List.perm_append_comm (l₁:=[(x3+937,ae es ep2)]) (l₂:=[(s1+937,aa [] ea),(s2+937,aa [] eb),(s4+937,ae es4 ed),(s3+937,bL sd)])))) λn x hC=>⟨x,hC,rfl,FL _⟩) [0,1] (FL _) (.head _) λx m3 kk3 g3 hC=>?_
 intro sS
 exact fx F E 0 0 [0,1,2] (⟨some (kk1,sv x.nd),ee+1,x.sl⟩,x.y,x.vs) _ (GO G) [(y1+937,aT (x3+937) (0+1) es.length ep2)] (FL _) rfl hC
end
end
section
theorem yn{α:Type}(a b c d e f:α):[a,b,c,d,e,f].Perm [b,c,e,d,a,f]:=
 (List.Perm.cons a (List.Perm.cons b (List.Perm.cons c (List.Perm.swap e d [f])))).trans (List.Perm.append_right [f] (List.perm_append_comm (l₁:=[a]) (l₂:=[b,c,e,d])))
theorem pI{w:World}{K:Type}[DecidableEq K]{knd:KeyKind pw w K}:KV knd [] []:=⟨λ_ h=>by simp at h,by constructor,List.nodup_nil⟩
theorem l7{w:World}(b:Bool):cq w (.set #[] 0 (SetTable.fresh 0 0 b)) (λ_=>false) 0:=⟨#[],0,_,rfl,λe h=>by simp at h,λk=>⟨λh=>(by cases h),λ⟨e,h,_⟩=>by simp at h⟩,by decide,by cases b<;>rfl,rfl⟩
section
variable{w:World}{x1 x2 x3 x4 k1 k2 k3 k4 t3 t4 ep ep2:Nat}{out fin:Int}{G:List Nd}{es:List DictEntry}
theorem rU{ρ:Str→Nat}(h:KV (SK w) es (aH G))(hρ:∀v∈G,∀s∈v.ss,ρ s.1 < ρ v.S)(hcl:∀v∈G,∀s∈v.ss,s.1∈(ao G).map (·.1))(hG64:G.length≤64):
  aR w 5 none [] (.call (.ref 157) ⟨[.ref (x1+937)],[]⟩) (aQ w.params x1 x2 x3 x4 k1 k2 k3 k4 t3 t4 ep out fin++[(x3+937,ae es ep2)]++GO G) (X:=Unit) (λ_ _=>True) (λ_=>.ok (.ret .none))
   (λ_=>aQ w.params x1 x2 x3 x4 k1 k2 k3 k4 t3 t4 ep out fin++[(x3+937,ae es ep2)]++GO G):=by
 refine aZ _ _ λA R d os hb m0 g tk b outer Z F E N=>?_
 refine ex F Z 7 1064960 ?_
 intro sS
 refine da F 105 0x2430c30ff0c31041041071c71c71c0004104104102001040000040000044 ?_
 intro sS
 refine aw [0,1,2,3] [4,5,6,7,8] [(b+938,aa [] 0),(b+939,aa [] 0),(b+940,bL (Data.set #[] 0 (SetTable.fresh 0 0 (!w.params.followText "set-order")))),(b+941,ae [] 0),(b+942,aT (x3+937) 0 es.length ep2)] [] ([(b+938,aa [] 0),(b+939,aa [] 0),(b+940,bL (Data.set #[] 0 (SetTable.fresh 0 0 (!w.params.followText "set-order")))),(b+941,ae [] 0),(b+942,aT (x3+937) 0 es.length ep2)]++GO G) (FL _) ?_
 intro sS
 refine cm (L':=4) (hd':=none) F Z N 0 0 ([x6 w.params x1 x3 b (b+1) (b+2) (b+3) (b+4) tk (tk+2) (tk+3) (tk+4) (tk+5) (tk+6) (none) 6 ⟨[]⟩,(x3+937,ae es ep2)]) ([(b+938,aa [] 0),(b+939,aa [] 0),(b+940,bL (Data.set #[] 0 (SetTable.fresh 0 0 (!w.params.followText "set-order")))),(b+941,ae [] 0),(b+942,aT (x3+937) 0 es.length ep2)]++GO G) [] (λx=>[x6 w.params x1 x3 b (b+1) (b+2) (b+3) (b+4) tk (tk+2) (tk+3) (tk+4) (tk+5) (tk+6) (x.o) x.ee x.sl,(x3+937,ae es ep2)]) (λx=>[]) (λx=>GO G) (aU w.params b) (b+937) (df (cd w.params x1 x3 (b+1) (b+2) (b+3) (b+4) tk (tk+2) (tk+3) (tk+4) (tk+5) (tk+6)++uA w.params none) 6 ⟨[]⟩) ((Ff h hρ hcl hG64 G 0 none 6 ⟨[]⟩ 0 0 0 [] (Data.set #[] 0 (SetTable.fresh 0 0 (!w.params.followText "set-order"))) (λ_=>false) 0 rfl (l7 _) (by have:=nI (λ_=>false) G;lia) pI).convP (List.Perm.append_right _ (List.Perm.cons _ (yn _ _ _ _ _ _))) λn x hC=>⟨x,hC,rfl,FL _⟩) [3,2] (by rw[FK]) (.head _) λx m1 kk1 g1 hC=>?_
 intro sS
 exact fx F E 1 0 [0,1,2] () _ (GO G) [] (FL _) rfl trivial
theorem rV(h:KV (SK w) es (aH G))(hne:∀v∈G,v.ss≠[])(hG:G≠[])(hcl:∀v∈G,∀s∈v.ss,s.1∈(ao G).map (·.1))(hG64:G.length≤64):
  aR w 5 none [] (.call (.ref 157) ⟨[.ref (x1+937)],[]⟩) (aQ w.params x1 x2 x3 x4 k1 k2 k3 k4 t3 t4 ep out fin++[(x3+937,ae es ep2)]++GO G) (X:=Nat×List Value) (λ_ x=>x.2≠[]∧x.2.length≤sizeLine) (λx=>.ok (.ret (.ref (x.1+937))))
   (λx=>aQ w.params x1 x2 x3 x4 k1 k2 k3 k4 t3 t4 ep out fin++[(x3+937,ae es ep2),(x.1+937,aa x.2 0)]++GO G):=by
 refine aZ _ _ λA R d os hb m0 g tk b outer Z F E N=>?_
 refine ex F Z 7 1064960 ?_
 intro sS
 refine da F 105 0x2430c30ff0c31041041071c71c71c0004104104102001040000040000044 ?_
 intro sS
 refine aw [0,1,2,3] [4,5,6,7,8] [(b+938,aa [] 0),(b+939,aa [] 0),(b+940,bL (Data.set #[] 0 (SetTable.fresh 0 0 (!w.params.followText "set-order")))),(b+941,ae [] 0),(b+942,aT (x3+937) 0 es.length ep2)] [] ([(b+938,aa [] 0),(b+939,aa [] 0),(b+940,bL (Data.set #[] 0 (SetTable.fresh 0 0 (!w.params.followText "set-order")))),(b+941,ae [] 0),(b+942,aT (x3+937) 0 es.length ep2)]++GO G) (FL _) ?_
 intro sS
 refine cm (L':=4) (hd':=none) F Z N 0 0 ([x6 w.params x1 x3 b (b+1) (b+2) (b+3) (b+4) tk (tk+2) (tk+3) (tk+4) (tk+5) (tk+6) (none) 6 ⟨[]⟩,(x3+937,ae es ep2)]) ([(b+938,aa [] 0),(b+939,aa [] 0),(b+940,bL (Data.set #[] 0 (SetTable.fresh 0 0 (!w.params.followText "set-order")))),(b+941,ae [] 0),(b+942,aT (x3+937) 0 es.length ep2)]++GO G) [] (λx=>[x6 w.params x1 x3 b (b+1) (b+2) (b+3) (b+4) tk (tk+2) (tk+3) (tk+4) (tk+5) (tk+6) (x.1.o) x.1.ee x.1.sl,(x3+937,ae es ep2)]) (λx=>[(x.2.1+937,aa x.2.2 0)]) (λx=>GO G) (aU w.params b) (b+937) (df (cd w.params x1 x3 (b+1) (b+2) (b+3) (b+4) tk (tk+2) (tk+3) (tk+4) (tk+5) (tk+6)++uA w.params none) 6 ⟨[]⟩) ((Fg (ee:=6) (sl:=⟨[]⟩) (ea:=0) (eb:=0) (ed:=0) (es4:=[]) (sd:=(Data.set #[] 0 (SetTable.fresh 0 0 (!w.params.followText "set-order")))) h hne hG hcl hG64 (l7 _) (λ_=>rfl) pI).convP (List.Perm.append_right _ (List.Perm.cons _ (yn _ _ _ _ _ _))) λn x hC=>⟨x,hC,rfl,FL _⟩) [3,2] (by rw[FK]) (.head _) λx m1 kk1 g1 hC=>?_
 intro sS
 exact fx F E 0 0 [0,1,2,4] x.2 _ (GO G) [] (FL _) rfl hC
end
end
structure gH where
 rl:List SV
 q:Tok
 z:Value
 ea:Nat
 ec:Nat
 io:Nat
theorem kE{w:World}{x3 y1 ac lo lc ep2 ea ec:Nat}{es:List DictEntry}{G:List Nd}(h:KV (SK w) es (aH G))(hG:G≠[])(hG64:G.length≤64):
  Spec w 1 none (sp w.params y1 ac lo lc) ([(y1+937,bR (x3+937) 0 es.length ep2),(x3+937,ae es ep2),(ac+937,aa [] ea),(lc+937,ae [] ec)]++GO G)
   (X:=gH) (λ_ x=>x.rl.map (·.1)=bG (ao G)) (λ_=>.ok .next)
   (λx=>[(y1+937,d9 x.io es.length ep2),(x3+937,ae es ep2),(ac+937,aa (x.rl.map sv) x.ea),(lc+937,ae [de w.params (u [105]) x.q x.z] x.ec)]++GO G):=by
 have S:=(sq w x3 y1 ac lo lc ep2 es G h G 0 [] none ea ec rfl (by rw[sizeLine_eq];simp;lia)).convP (Nat.le_refl _) (FL _) (C':=λ_(x:gH)=>x.rl.map (·.1)=bG (ao G)) (r':=λ_=>.ok .next)
  (post':=λx=>[(y1+937,d9 x.io es.length ep2),(x3+937,ae es ep2),(ac+937,aa (x.rl.map sv) x.ea),(lc+937,ae [de w.params (u [105]) x.q x.z] x.ec)]++GO G) λn x hC=>by
   obtain⟨rl,o,ea',ec',io⟩:=x
   cases o with
   |none=>exact absurd (hC.2 (.inr hG)) (by simp)
   |some qz=>exact⟨⟨rl,qz.1,qz.2,ea',ec',io⟩,hC.1,rfl,FL _⟩
 obtain⟨v,b1,b2,b3,rfl⟩:=al w
 refine aA _ _ λA R d os hb m0 g tk b Z F E=>?_
 cases b2
 ·exact ax F E Z 11 17297473 _ (GO G) [] S [0,1,2,3] (by rw[FK]) (λ_ x _ hC=>⟨x,hC,rfl,λ_ h=>h,id⟩)
 ·exact ax F E Z 1 0 _ (GO G) [] S [0,1,2,3] (by rw[FK]) (λ_ x _ hC=>⟨x,hC,rfl,λ_ h=>h,id⟩)
structure xV where
 rl:List SV
 x4:Nat
 ea:Nat
theorem su{w:World}{x1 x2 x3 k1 k2 k3 k4 t3 t4 ep ep2:Nat}{out fin:Int}{G:List Nd}{es:List DictEntry}{ρ:Str→Nat}(h:KV (SK w) es (aH G))(hρ:∀v∈G,∀s∈v.ss,ρ s.1 < ρ v.S)(hcl:∀v∈G,∀s∈v.ss,s.1∈(ao G).map (·.1))(hG:G≠[])(hG64:G.length≤64):
  aR w 6 none [] (.call (.ref 122) ⟨[.ref (x1+937)],[]⟩) ([(x1+937,ap 167 (x2+937)),(x2+937,au w.params k1 k2 k3 k4 t3 t4 (x3+937) .none out fin ep),(x3+937,ae es ep2)]++GO G)
   (X:=xV) (λ_ x=>x.rl.map (·.1)=bG (ao G)) (λ_=>.ok (.ret .none))
   (λx=>aQ w.params x1 x2 x3 x.x4 k1 k2 k3 k4 t3 t4 ep out fin++[(x3+937,ae es ep2),(x.x4+937,aa (x.rl.map sv) x.ea)]++GO G):=by
 refine aZ _ _ λA R d os hb m0 g tk b outer Z F E N=>?_
 refine ex F Z 7 1064960 ?_
 intro sS
 refine cf (L':=1) (hd':=none) F Z 72 0x1830c517f1450c30c30c3080041000001000001102001040000040000044 ([(b+939,bR (x3+937) 0 es.length ep2),(x3+937,ae es ep2),(b+940,aa [] 0),(b+941,ae [] 0)]) (GO G) ([]) (λ(x:gH)=>[(b+939,d9 x.io es.length ep2),(x3+937,ae es ep2),(b+940,aa (x.rl.map sv) x.ea),(b+941,ae [de w.params (u [105]) x.q x.z] x.ec)]) (λ(x:gH)=>[]) (λ(x:gH)=>GO G) (kE (lo:=b) h hG hG64) [5,2,6,7] (by rw[FK]) λ(x:gH)m1 kk1 g1 hC1=>?_
 intro sS
 refine cn (L':=5) (hd':=none) F Z N 54 0x2040000001000001000001102082001000001001001000001108208 (aQ w.params x1 x2 x3 (b+3) k1 k2 k3 k4 t3 t4 ep out fin++[(x3+937,ae es ep2)]) (GO G) [] (λyy=>(aQ w.params x1 x2 x3 (b+3) k1 k2 k3 k4 t3 t4 ep out fin++[(x3+937,ae es ep2)])) (λyy=>[]) (λyy=>GO G) (rU h hρ hcl hG64) [0,1,2] 3 (bH 122 (sm w.params) b) (b+937) (df [de w.params U2 tk (.ref (x1+937))] 1 ⟨[]⟩) (FL _) λyy m2 kk2 g2 σ hC=>?_
 intro sS
 exact fx F E 12 16644 [0,1,2,6] ⟨x.rl,b+3,x.ea⟩ _ (GO G) [] (by rw[FK]) rfl hC1
section
noncomputable abbrev nl:List Stmt:=aE (az (aj 10) 3)
noncomputable abbrev kD(P:Params)(lo:Nat):Env:=bH 122 (sm P) lo
noncomputable abbrev pV(P:Params)(lo:Nat):Code:=.func nl (kD P lo)
noncomputable abbrev ld(m:Nat)(tb:Value):Obj:=fM (.ref 85) (.ref (m+939)) tb .none .none (.bool false) .none
structure yI where
 m:Nat
 fes:List DictEntry
 fe:Nat
 fsl:Array (Option Value)
structure k9 where
 m:Nat
 T:Nat
 L:Nat
 cs:List Value
section
variable{w:World}{x1 x2 x3 lo q1 k1 k2 k3 k4 t3 t4 ep ep2:Nat}{out fin:Int}{G:List Nd}{es:List DictEntry}
theorem uO(h:KV (SK w) es (aH G))(hne:∀v∈G,v.ss≠[])(hG:G≠[])(hcl:∀v∈G,∀s∈v.ss,s.1∈(ao G).map (·.1))(hG64:G.length≤64):
  jq w 6 none [] (pV w.params lo) (execs nl (kD w.params lo)) ([(x1+937,ap 167 (x2+937)),(x2+937,au w.params k1 k2 k3 k4 t3 t4 (x3+937) .none out fin ep),(x3+937,ae es ep2),(lo+937,df [de w.params U2 q1 (.ref (x1+937))] 1 ⟨[]⟩)]++GO G)
   (X:=yI) (λ_ _=>True) (λx=>.error (.ref (x.m+938))) (λx=>[(lo+937,df x.fes x.fe x.fsl),(x.m+938,ld x.m .none)]):=by
 refine gm (tt:=PySem.W.Fast.tw12563942051412417395 nl (kD w.params lo)) ?_ _ _ λA R d os hb m0 g tk b outer Z F E N=>?_
 ·rw[←PySem.W.Fast.te12563942051412417395]
 refine cf (L':=1) (hd':=none) F Z 70 0x1830c517f1450c30c30c3080041000001000001102001040000040000044 ([(b+938,bR (x3+937) 0 es.length ep2),(x3+937,ae es ep2),(b+939,aa [] 0),(b+940,ae [] 0)]) (GO G) ([]) (λ(x:gH)=>[(b+938,d9 x.io es.length ep2),(x3+937,ae es ep2),(b+939,aa (x.rl.map sv) x.ea),(b+940,ae [de w.params (u [105]) x.q x.z] x.ec)]) (λ(x:gH)=>[]) (λ(x:gH)=>GO G) (kE (lo:=lo) h hG hG64) [5,2,6,7] (by rw[FK]) λ(x:gH)m1 kk1 g1 hC1=>?_
 intro sS
 refine cn (L':=5) (hd':=none) F Z N 54 0x2040000001000001000001102082001000001001001000001108208 (aQ w.params x1 x2 x3 (b+2) k1 k2 k3 k4 t3 t4 ep out fin++[(x3+937,ae es ep2)]) (GO G) [] (λ(yy:Nat×List Value)=>(aQ w.params x1 x2 x3 (b+2) k1 k2 k3 k4 t3 t4 ep out fin++[(x3+937,ae es ep2)])) (λyy=>[(yy.1+937,aa yy.2 0)]) (λyy=>GO G) (rV h hne hG hcl hG64) [0,1,2] 3 (bH 122 (sm w.params) lo) (lo+937) (df [de w.params U2 q1 (.ref (x1+937))] 1 ⟨[]⟩) (FL _) λyy m2 kk2 g2 σ hC=>?_
 show Gd _ _
 obtain⟨k,hk⟩:∃k,yy.2.length=k+1:=⟨yy.2.length-1,by have:=List.length_pos_iff.mpr hC.1;lia⟩
 refine cx (L':=0) (hd':=none) F Z 14 153370884 (gU (x:=yy.1) (ep:=0) hC.2 hk) [8] λt5 m3 kk3 g3 _=>?_
 intro sS
 refine ks F 27 256 (by kernel_rfl) (by kernel_rfl) (λp below=>by kernel_rfl) ?_
 exact fx F E 42 0x2c02cb00b2cb2cb00b00b00000b00b000000000000000 [3,10] ⟨m3,[de w.params U2 q1 (.ref (x1+937)),de w.params (u [99,121,99,108,101]) kk2 (.ref (yy.1+937))],2,σ⟩ _ [] (GO G) (by rw[FK,List.nil_append]) (FK _).symm trivial
theorem jg{M:Model}{A:Around}{c:Code}{E:Value→Shared→Prop}{s:Shared}{Q:Unit→Shared→Prop}(h:Q () s):wpOwn M A c point Q E s:=λ_ _ _ _=>h
theorem uN(h:KV (SK w) es (aH G))(hne:∀v∈G,v.ss≠[])(hG:G≠[])(hcl:∀v∈G,∀s∈v.ss,s.1∈(ao G).map (·.1))(hG64:G.length≤64):
  aR w 6 none [] (pV w.params lo) ([(x1+937,ap 167 (x2+937)),(x2+937,au w.params k1 k2 k3 k4 t3 t4 (x3+937) .none out fin ep),(x3+937,ae es ep2),(lo+937,df [de w.params U2 q1 (.ref (x1+937))] 1 ⟨[]⟩)]++GO G)
   (X:=k9) (λ_ _=>True) (λx=>.error (.ref (x.m+938))) (λx=>[(x.m+938,ld x.m (.ref (x.T+937))),(x.T+937,iW .none (x.L+937) x.cs)]):=by
 refine gA (C:=λ_=>True) λA hb m0 g d tk os outer nx Z N fk H=>?_
 have hff:(A.under (pV w.params lo)).frames=some (kD w.params lo::outer):=by
  show pushEnvs [kD w.params lo] A.frames=_
  rw[pushEnvs_eq,N.fr]
  rfl
 show wpOwn _ A _ (do point;match ←(execs nl (kD w.params lo)).onRaise (leaving (kD w.params lo))with|.ret v=>ret v|_=>ret .none) _ _ _
 refine wpOwn_bind (jg ?_)
 refine wpOwn_bind (eC (wpOwn_mono (eZ (rest:=[]) (uO h hne hG hcl hG64) Z N fk (by rw[FK];exact H)) (λf' s' h=>?_) λe' s' h=>?_))
 ·obtain⟨_,_,_,_,er,_⟩:=h
  cases er
 obtain⟨x,h2,tk2,g2,er,_,H2⟩:=h
 injection er with er
 subst er
 refine nk ?_
 unfold leaving
 refine wpAny_bind (wpAny_mono (hF (rest:=[]) N hff rfl rfl rfl (H2.perm (List.Perm.swap _ _ _)) λh3 T cs σ H3=>?_) (λ_ _ x=>x) λ_ _ x=>x)
 exact⟨⟨x.m,T,lo,cs⟩,h3,tk2,g2,rfl,trivial,H3.sub (λp hp=>by
  simp only[FK,FY,FU,or_false]at hp⊢
  rcases hp with rfl|rfl
  ·exact .inl rfl
  ·exact .inr (.inr rfl)) (by
  have nd:=H3.nd
  simp only[FK,FR,List.map_nil,List.nodup_cons,FY,FU,or_false,not_or,not_false_eq_true,List.nodup_nil,and_true]at nd⊢
  exact nd.1.2)⟩
theorem pW(h:KV (SK w) es (aH G))(hne:∀v∈G,v.ss≠[])(hG:G≠[])(hcl:∀v∈G,∀s∈v.ss,s.1∈(ao G).map (·.1))(hG64:G.length≤64):
  aR w 6 none [] (.call (.ref 122) ⟨[.ref (x1+937)],[]⟩) ([(x1+937,ap 167 (x2+937)),(x2+937,au w.params k1 k2 k3 k4 t3 t4 (x3+937) .none out fin ep),(x3+937,ae es ep2)]++GO G)
   (X:=k9) (λ_ _=>True) (λx=>.error (.ref (x.m+938))) (λx=>[(x.m+938,ld x.m (.ref (x.T+937))),(x.T+937,iW .none (x.L+937) x.cs)]):=by
 have S:=λlo q1=>uN (lo:=lo) (q1:=q1) (x1:=x1) (x2:=x2) (x3:=x3) (k1:=k1) (k2:=k2) (k3:=k3) (k4:=k4) (t3:=t3) (t4:=t4) (ep:=ep) (ep2:=ep2) (out:=out) (fin:=fin) h hne hG hcl hG64
 refine aZ _ _ λA R d os hb m0 g tk b outer Z F E N=>?_
 refine ex F Z 7 1064960 ?_
 intro sS
 exact an F E Z N 0 0 [(x1+937,ap 167 (x2+937)),(x2+937,au w.params k1 k2 k3 k4 t3 t4 (x3+937) .none out fin ep),(x3+937,ae es ep2),(b+937,df [de w.params U2 tk (.ref (x1+937))] 1 ⟨[]⟩)] (GO G) [] (S b tk) [0,1,2,3] (by rw[FK]) (λhp nx H=>⟨trivial,λ_ h=>by cases h⟩) (λn x' _ hC=>⟨x',hC,rfl,λ_ h=>h,id⟩)
end
end
section
noncomputable abbrev kB:List Stmt:=aE (az (aj 30) 10)
noncomputable abbrev jy(P:Params)(lo:Nat):Env:=bH 856 (BF P) lo
noncomputable abbrev ni(P:Params)(lo:Nat):Code:=.func kB (jy P lo)
noncomputable abbrev sJ(m:Nat)(tb:Value):Obj:=fM (b8 0).cls (.ref (m+939)) tb .none .none (.bool false) .none
section
variable{w:World}{x1 x2 y1 y2 d1 d2 k1 k2 k3 t1 t2 ep ep3 lo q1:Nat}{κ ν:Nat→Nat}{S:Str}
theorem w9{tt t3 p:Nat}(hS:S.length≤1000)(hp:p=S.length):
  jq w 5 none [] (ni w.params lo) (execs kB (jy w.params lo)) ([(lo+937,df [de w.params U2 q1 (.ref (x1+937))] 1 ⟨[]⟩)]++cH w.params κ ν x1 x2 y1 y2 d1 d2 k1 k2 k3 t1 t2 t3 S p .none (.str (u []) tt) ep ep3)
   (X:=yI) (λ_ _=>True) (λx=>.error (.ref (x.m+938))) (λx=>[(lo+937,df x.fes x.fe x.fsl),(x.m+938,sJ x.m .none)]):=by
 have z:jq w 5 none [] (ni w.params lo) (execs kB (jy w.params lo)) (([(lo+937,df [de w.params U2 q1 (.ref (x1+937))] 1 ⟨[]⟩)]++cH w.params κ ν x1 x2 y1 y2 d1 d2 k1 k2 k3 t1 t2 t3 S p .none (.str (u []) tt) ep ep3)++[])
   (X:=yI) (λ_ _=>True) (λx=>.error (.ref (x.m+938))) (λx=>[(lo+937,df x.fes x.fe x.fsl),(x.m+938,sJ x.m .none)]):=by
  refine gm (tt:=PySem.W.Fast.tw12563942051412417395 kB (jy w.params lo)) ?_ _ [] λA R d os hb m0 g tk b outer Z F E N=>?_
  ·rw[←PySem.W.Fast.te12563942051412417395]
  refine cx (post:=λ(x:Nat×Nat)=>cH w.params κ ν x1 x2 y1 y2 d1 d2 k1 k2 k3 t1 t2 x.1 S p .none (.str (u []) x.2) ep ep3) (L':=4) (hd':=none) F Z 22 0xc2000000080000080000081 (ww (tt:=tt) (t3:=t3) hS hp) [1,2,3,4,5,6] λ(x:Nat×Nat)m1 kk1 g1 _=>?_
  intro sS
  refine ks F 44 0x3f0c0082000002000002041041 (by kernel_rfl) (by kernel_rfl) (λp below=>by kernel_rfl) ?_
  exact fx F E 31 0x9249249249249249249249 [0,8] ⟨m1,[de w.params U2 q1 (.ref (x1+937)),de w.params (u [116,111,107,101,110]) kk1 .none],2,⟨[]⟩⟩ _ [] [] (FL _) (FK _).symm trivial
 rwa[FK]at z
theorem w8{tt t3 p:Nat}(hS:S.length≤1000)(hp:p=S.length):
  aR w 5 none [] (ni w.params lo) ([(lo+937,df [de w.params U2 q1 (.ref (x1+937))] 1 ⟨[]⟩)]++cH w.params κ ν x1 x2 y1 y2 d1 d2 k1 k2 k3 t1 t2 t3 S p .none (.str (u []) tt) ep ep3)
   (X:=k9) (λ_ _=>True) (λx=>.error (.ref (x.m+938))) (λx=>[(x.m+938,sJ x.m (.ref (x.T+937))),(x.T+937,iW .none (x.L+937) x.cs)]):=by
 refine gA (C:=λ_=>True) λA hb m0 g d tk os outer nx Z N fk H=>?_
 have hff:(A.under (ni w.params lo)).frames=some (jy w.params lo::outer):=by
  show pushEnvs [jy w.params lo] A.frames=_
  rw[pushEnvs_eq,N.fr]
  rfl
 show wpOwn _ A _ (do point;match ←(execs kB (jy w.params lo)).onRaise (leaving (jy w.params lo))with|.ret v=>ret v|_=>ret .none) _ _ _
 refine wpOwn_bind (jg ?_)
 refine wpOwn_bind (eC (wpOwn_mono (eZ (rest:=[]) (w9 (tt:=tt) (t3:=t3) hS hp) Z N fk (by rw[FK];exact H)) (λf' s' h=>?_) λe' s' h=>?_))
 ·obtain⟨_,_,_,_,er,_⟩:=h
  cases er
 obtain⟨x,h2,tk2,g2,er,_,H2⟩:=h
 injection er with er
 subst er
 refine nk ?_
 unfold leaving
 refine wpAny_bind (wpAny_mono (hF (rest:=[]) N hff rfl rfl rfl (H2.perm (List.Perm.swap _ _ _)) λh3 T cs σ H3=>?_) (λ_ _ x=>x) λ_ _ x=>x)
 exact⟨⟨x.m,T,lo,cs⟩,h3,tk2,g2,rfl,trivial,H3.sub (λp hp=>by
  simp only[FK,FY,FU,or_false]at hp⊢
  rcases hp with rfl|rfl
  ·exact .inl rfl
  ·exact .inr (.inr rfl)) (by
  have nd:=H3.nd
  simp only[FK,FR,List.map_nil,List.nodup_cons,FY,FU,or_false,not_or,not_false_eq_true,List.nodup_nil,and_true]at nd⊢
  exact nd.1.2)⟩
theorem uG{tt t3 p:Nat}(hS:S.length≤1000)(hp:p=S.length):
  aR w 5 none [] (.call (.ref 856) ⟨[.ref (x1+937)],[]⟩) (cH w.params κ ν x1 x2 y1 y2 d1 d2 k1 k2 k3 t1 t2 t3 S p .none (.str (u []) tt) ep ep3)
   (X:=k9) (λ_ _=>True) (λx=>.error (.ref (x.m+938))) (λx=>[(x.m+938,sJ x.m (.ref (x.T+937))),(x.T+937,iW .none (x.L+937) x.cs)]):=by
 have SN:=λlo q1=>w8 (w:=w) (lo:=lo) (q1:=q1) (x1:=x1) (x2:=x2) (y1:=y1) (y2:=y2) (d1:=d1) (d2:=d2) (k1:=k1) (k2:=k2) (k3:=k3) (t1:=t1) (t2:=t2) (ep:=ep) (ep3:=ep3) (κ:=κ) (ν:=ν) (tt:=tt) (t3:=t3) hS hp
 have z:aR w 5 none [] (.call (.ref 856) ⟨[.ref (x1+937)],[]⟩) (cH w.params κ ν x1 x2 y1 y2 d1 d2 k1 k2 k3 t1 t2 t3 S p .none (.str (u []) tt) ep ep3++[])
   (X:=k9) (λ_ _=>True) (λx=>.error (.ref (x.m+938))) (λx=>[(x.m+938,sJ x.m (.ref (x.T+937))),(x.T+937,iW .none (x.L+937) x.cs)]):=by
  refine aZ _ [] λA R d os hb m0 g tk b outer Z F E N=>?_
  refine ex F Z 7 1863680 ?_
  intro sS
  exact an F E Z N 0 0 ([(b+937,df [de w.params U2 tk (.ref (x1+937))] 1 ⟨[]⟩)]++cH w.params κ ν x1 x2 y1 y2 d1 d2 k1 k2 k3 t1 t2 t3 S p .none (.str (u []) tt) ep ep3) [] [] (by rw[FK];exact SN b tk) [6,0,1,2,3,4,5] (FL _) (λhp nx H=>⟨trivial,λ_ h=>by cases h⟩) (λn x' _ hC=>⟨x',hC,rfl,λ_ h=>h,id⟩)
 rwa[FK]at z
end
end
section
section
variable{w:World}{hd:Option Value}{A:Around}{R:Result→Shared→Prop}{d:Drawn}{os:OsState}{hb:Heap}{m0:cM}{g:GB}{fr:ah}{s:St}{L L':Nat}{c:Code}{pf outer:List Env}
theorem c0{X:Type}{C:Nat→X→Prop}{r:X→Result}(F:fP w hd A R d os hb m0)(Z:Rm A L hd)(N:Nz w A hb m0 pf outer)(n pl:Nat){hd':Option Value}(preF preR frR:ah)(postF new postR:X→ah)(S:aR w L' hd' [] c (preF++preR) C r λx=>postF x++new x++postR x)(sel:List Nat)(hfr:fr.Perm (preR++frR))(h:∀(x:X)(m tk:Nat)(g':GB),C (go (ag w hd) n pl s).S.N x→let sS:=((go (ag w hd) n pl s).S.next (λt=>cu t (r x)) (λos=>bp os sel (postF x)++new x) (m+937) tk);Gd (aG w A R d os hb m0 g' (postR x++frR)) sS)(hpm:∀x,(postF x).map (·.1)=preF.map (·.1):=by exactλ_=>rfl)(ok:((go (ag w hd) n pl s).Y&&(cg 0 sel&&(pS L' L&&dh (go (ag w hd) n pl s).S)))=true:=by kernel_rfl)(ab:(go (ag w hd) n pl s).A=(go (ag w hd) n pl s).B:=by kernel_rfl)(ec:ce (go (ag w hd) n pl s).S.T=c:=by kernel_rfl)(hh:aB hd (go (ag w hd) n pl s).S.K=hd':=by kernel_rfl)(hE:zb (go (ag w hd) n pl s).S++pf=[]:=by kernel_rfl)(hsel:bu (go (ag w hd) n pl s).S.O sel=preF.map some:=by kernel_rfl):Gd (aG w A R d os hb m0 g fr) s:=by
 simp only[Bool.and_eq_true]at ok
 refine eI (F g fr) n pl ok.1 ab ?_
 obtain⟨_,hs,hl,ic⟩:=ok
 revert ec hh hE hsel h ic
 generalize (go (ag w hd) n pl s).S=s
 intro h ec hh hE hsel ic
 obtain⟨ic,eh,ed,eu⟩:=dK ic
 have ic:cG s.t=true:=ic
 have ec:ce s.t=c:=ec
 have eh:b9 s.t=none:=eh
 have hsel:bu s.os sel=preF.map some:=hsel
 have hh:aB hd s.κ=hd':=hh
 have hE:s.c.envs++i8 s.κ++pf=[]:=hE
 have ed:n7 s.κ+wt s.c≤40:=ed
 have eu:sP s.κ+un s.c≤100:=eu
 have h:∀(x:X)(m tk:Nat)(g':GB),C s.nx x→Gd (aG w A R d os hb m0 g' (postR x++frR)) ⟨s.c,s.κ,cu s.t (r x),bp s.os sel (postF x)++new x,m+937,tk⟩:=h
 refine⟨λhp H=>?_⟩
 have H:aI (bo w) hb m0 hp (s.os++fr) s.nx:=H
 obtain⟨gd,l,sh⟩:=ci ic
 show wpOwn _ _ _ s.t _ _ _
 rw[sh,ec,eh]
 refine y_call _ _ _ _ _ _ _ _ _ _ _ _ _ (by intro e;cases e) ?_
 have hdep:=eK (bF w A R d os) s.κ
 have hun:=gn (bF w A R d os) s.κ
 have e1:s.c.weight=wt s.c:=by rw[fJ]
 have e2:s.c.cUnits=un s.c:=by rw[gO]
 have e3:(bF w A R d os).A₀.depth=A.depth:=rfl
 have e4:(bF w A R d os).A₀.units=A.units:=rfl
 have hD:=lS hl Z.d
 have hU:=lU hl Z.u
 have hhd:((aroundOf (bF w A R d os) true s.κ).under s.c|>.mark none).handled=hd':=by
  show(none:Option Value).or (aroundOf (bF w A R d os) true s.κ).handled=hd'
  rw[bv]
  show aB A.handled s.κ=hd'
  rw[Z.h,hh]
 have hff:((aroundOf (bF w A R d os) true s.κ).under s.c|>.mark none).frames=some ([]++outer):=by
  show pushEnvs s.c.envs (aroundOf (bF w A R d os) true s.κ).frames=_
  rw[pushEnvs_eq,gy]
  show((A.frames.map (i8 s.κ++·)).map (s.c.envs++·))=_
  rw[N.fr]
  show some (s.c.envs++(i8 s.κ++(pf++outer)))=some ([]++outer)
  rw[←FV,←FV,hE]
 have nd:=jv H hs hsel hfr
 have mem:∀p∈preF++preR,p∈s.os++fr:=λp hp'=>dg hsel hfr p hp'
 have fok:cQ w hp ([]++outer):=N.now H
 have z:=S (((aroundOf (bF w A R d os) true s.κ).under s.c).mark none) hp g d s.tk os outer ⟨hhd,
  (by show(aroundOf (bF w A R d os) true s.κ).depth+s.c.weight≤DL L';lia),(by show(aroundOf (bF w A R d os) true s.κ).units+s.c.cUnits≤UL L';lia)⟩
  hff fok (λb hb' hm=>by
   obtain⟨p,hp',rfl⟩:=FX.mp hm
   exact N.notin H p (mem p hp') hb')
  H.st (λp hpm=>H.own p (mem p hpm)) (λp hpm=>H.off p (mem p hpm)) nd
 refine codeAny_mono z λr' s' hr=>?_
 obtain⟨x,h',tk',g',rfl,hC,hpost,hnl,hnn,hk⟩:=hr
 have hsz:hp.objs.size=s.nx:=H.size
 have hbg:937≤hp.objs.size:=aV w hp H.st
 obtain⟨m,hm⟩:∃m,h'.objs.size=m+937:=⟨h'.objs.size-937,by have:=hk.2;lia⟩
 have A':=d7 H hsel hfr nd (hpm x) hpost hnl hnn (fs:=aK outer) (λb hb'=>N.fs▸hb') (N.notin H) N.ok.off hk
 rw[hm]at A'
 exact(h x m tk' g' (hsz▸hC)).run h' A'
end
end
section
noncomputable def rB(a:Addr):Sem Unit:=PySem.W.Fast.tw4948061348172112992 a
theorem vH(a:Addr):lookBehind a=rB a:=by
 unfold rB
 rw[←PySem.W.Fast.te4948061348172112992]
section
variable{w:World}{hd:Option Value}{A:Around}{R:Result→Shared→Prop}{d:Drawn}{os:OsState}{hb:Heap}{m0:cM}{g:Array GenState}{fr:ah}{s:St}{L:Nat}
theorem kp(F:fP w hd A R d os hb m0)(n pl j:Nat)(a:Addr)(o:Obj)(os₁ os₂:ah)(T:Sem Fin)(he:os₁=os₂)(ho:o.data.pastItsLine=none)
  (ok:(go (ag w hd) n pl s).Y=true) (ab:(go (ag w hd) n pl s).A=(go (ag w hd) n pl s).B) (hT:(go (ag w hd) n pl s).S.T=PySem.W.R.bindR (rB a) λ_=>T)
  (hO:(go (ag w hd) n pl s).S.O=os₁) (hj:gM os₂ j=some (a,o))
  (h:Gd (aG w A R d os hb m0 g fr) (((go (ag w hd) n pl s).S.setT T).mapO λ_=>os₂)):Gd (aG w A R d os hb m0 g fr) s:=by
 refine eI (F g fr) n pl ok ab ?_
 revert hT hO h
 generalize (go (ag w hd) n pl s).S=s'
 intro hT hO h
 obtain⟨c,κ,t,oo,nx,tk⟩:=s'
 have hO:oo=os₁:=hO
 subst hO he
 refine nA (rB a) T (by rw[PySem.W.R.bindR_eq];exact hT) (λhp H Q E q=>?_) h
 rw[←vH]
 exact wpAny_lookBehind (H.at j hj) ho q
noncomputable def pc(a:Array Value)(v:Value):Array Value:=PySem.W.Fast.tw2398297429280069960 a v
theorem vI(a:Array Value)(v:Value):pc a v=a.push v:=by
 unfold pc
 rw[←PySem.W.Fast.te2398297429280069960]
theorem uQ(vs:List Value)(v:Value)(el:Nat):Obj.mapSeq (λa=>pc a v) (aa vs el)=aa (vs++[v]) (el+1):=by
 have q:(λa=>pc a v)=λa=>a.push v:=funext λa=>vI a v
 rw[q]
 show(⟨_,none,.seq ((⟨vs⟩:Array Value).push v) _,_⟩:Obj)=_
 have e:(⟨vs⟩:Array Value).push v=⟨vs++[v]⟩:=by simp
 rw[if_neg (by simp),e]
theorem r7(vs:List Value)(e:Nat)(h:vs.length≤sizeLine):(aa vs e).data.pastItsLine=none:=pastItsLine_seq (xs:=⟨vs⟩) (by simp;lia)
end
end
noncomputable def eQ:Expr→Expr
 |.Call _ (a::_) _ _=>a
 |e=>e
noncomputable abbrev dl:Expr:=eQ (nt (br (aE (aj 32)) 0))
noncomputable def tM:Expr→Expr
 |.GeneratorExp e _ _ _=>e
 |e=>e
noncomputable def wu:Expr→Expr
 |.GeneratorExp _ (c::_) _ _=>c.target
 |e=>e
noncomputable def lh(P:Params)(C co:Addr):Env:={bH 878 (xa P) 0 with scope:=bZ dl,locals:=C,qual:=(bH 878 (xa P) 0).qual++(u [60,103,101,110,101,120,112,114,62,46]),func:=none,code:=.ref co,frame:=some C}
noncomputable abbrev Fl(P:Params):Option (Tok×Value)→List DictEntry
 |none=>[]
 |some (q,z)=>[de P (u [97,114,103]) q z]
noncomputable abbrev li(P:Params)(q0 y:Nat)(o:Option (Tok×Value))(ee:Nat):Obj:=e7 ([de P (u [46,48]) q0 (.ref (y+937))]++Fl P o) ee
noncomputable abbrev qC(P:Params)(y c co:Nat):Code:=.compLoop dl 0 (.ref (y+937)) .none (lh P (c+937) (co+937))
noncomputable def rz:Expr→Env→Value→Sem Unit:=PySem.W.Fast.tw17772580674575903948
theorem qe:assign=rz:=PySem.W.Fast.te17772580674575903948
noncomputable def yB:Expr→Env→Sem Value:=PySem.W.Fast.tw14044960220447912780
theorem vG:eval=yB:=PySem.W.Fast.te14044960220447912780
theorem uW{w:World}{B:Around}{s:Shared}{t k v:Tok}{Q:Value→Shared→Prop}{E:Value→Shared→Prop}(hu:k≠0)(hv:v≠0)(huv:k≠v)(h:∀k₁ k₂,Q (.str CL k₁) {s with toks:=k₂}):
  wpAny (model pw w) B (PySem.call (.builtin "str.replace") [.str U9 t,.str vT k,.str Cg v]) Q E s:=by
 have hc:((Builtin.Str.occurrences U9 vT 0 U9.length (U9.length+1)).isEmpty||(vT.length==0&&Cg.length==0))=false:=by kernel_rfl
 refine call_gives F.slot_str_replace (typeIs_str s _ t) F.entry_str_replace (F.args_str_replace_3 _ _ _) (gives_str_replace _ _ _ t k v λ_=>⟨?_,?_,by kernel_rfl,by kernel_rfl⟩) ?_
 ·simp[hu,hv]
 ·simp[huv]
 ·rw[if_neg (by rw[hc];exact Bool.false_ne_true)]
  have e:Builtin.Str.glued Cg (Builtin.Str.partsBetween U9 (Builtin.Str.occurrences U9 vT 0 U9.length (U9.length+1)) vT.length)=CL:=by kernel_rfl
  rw[e]
  exact⟨by decide,h _ _⟩
section
theorem rh{w:World}{L:Nat}{hd:Option Value}{c:Code}{t:Sem PySem.Fin}{A:Around}{R:Result→Shared→Prop}(Z:Rm A L hd)(pre:ah){hb:Heap}{g:Array GenState}{d:Drawn}{tk:Nat}{os:OsState}
  (hst:cb w hb) (hpre:k8 hb pre) (hoff:∀p∈pre,sQ w p.1) (nd:(pre.map (·.1)).Nodup)
  (h:∀b,hb.objs.size=b+937→fP w hd A R d os hb (md (pre.map (·.1)))→Gd (aG w A R d os hb (md (pre.map (·.1))) g []) ⟨c,.base,t,pre,b+937,tk⟩):
  wpOwn (model pw w) A c t (postC pw w A R) (postE R) ⟨hb,g,d,tk,os⟩:=by
 obtain⟨b,hbe⟩:∃b,hb.objs.size=b+937:=⟨hb.objs.size-937,by have:=aV w hb hst;omega⟩
 refine(h b hbe (λg fr'=>fits w A _ d os hb _ g fr' hd Z.h)).run hb ?_
 show aI (bo w) hb (md (pre.map (·.1))) hb (pre++[]) (b+937)
 rw[FK]
 exact⟨hbe,hst,hpre,hoff,nd,λp hp=>.inl (FP hp),λb o e _=>a6 e,hbe▸Nat.le_refl _⟩
theorem mL{kt:Addr→Option Obj}{hb hp:Heap}{hs fr:ah}{nx c:Nat}{o:Obj}(hc:hb.get? (c+937)=some o)(H:aI kt hb (md ([(c+937,o)].map (·.1))) hp (hs++fr) nx)(h0:gM hs 0=some (c+937,o)):(∀a o',hb.get? a=some o'→hp.get? a=some o')∧hb.objs.size≤hp.objs.size:=
 ⟨λa o' e=>by
  by_cases ha:a=c+937
  ·subst ha
   rw[hc]at e
   cases e
   exact H.at 0 h0
  ·exact(H.keep a o' e (by simpa using ha)).1 FU,H.size▸H.grow⟩
theorem kC(w:World)(a:Nat):sQ w (a+937):=λo e=>by
 have:bo w (a+937)=none:=by kernel_rfl
 rw[this]at e
 cases e
section
variable{w:World}{A:Around}{y c co q0 ee k:Nat}{hb:Heap}{g:Array GenState}{d:Drawn}{tk:Nat}{os:OsState}{E:Value→Shared→Prop}
theorem pD{L:Nat}(Z:Rm A L none)(hst:cb w hb){o:Option (Tok×Value)}{S:Str}(hc:hb.get? (c+937)=some (li w.params q0 y o ee)):
  wpOwn (model pw w) A (qC w.params y c co) (assign (wu dl) (lh w.params (c+937) (co+937)) (.str S k))
   (λ_ s'=>∃h' tk' q ee',s'=⟨h',g,d,tk',os⟩∧h'.get? (c+937)=some (li w.params q0 y (some (q,.str S k)) ee')∧(∀b o,b≠c+937→hb.get? b=some o→h'.get? b=some o)∧hb.objs.size≤h'.objs.size) E ⟨hb,g,d,tk,os⟩:=by
 obtain⟨v,b1,b2,b3,rfl⟩:=al w
 let R:Result→Shared→Prop:=λr s'=>r=.ok .next∧∃h' tk' q ee',s'=⟨h',g,d,tk',os⟩∧h'.get? (c+937)=some (li (ay v b1 b2 b3).params q0 y (some (q,.str S k)) ee')∧(∀b o,b≠c+937→hb.get? b=some o→h'.get? b=some o)∧hb.objs.size≤h'.objs.size
 have z:wpOwn (model pw (ay v b1 b2 b3)) A (qC (ay v b1 b2 b3).params y c co) (PySem.W.R.bindR (rz (wu dl) (lh (ay v b1 b2 b3).params (c+937) (co+937)) (.str S k)) (λ_=>Sem.pure (PySem.Fin.done Flow.next))) (postC pw (ay v b1 b2 b3) A R) (postE R) ⟨hb,g,d,tk,os⟩:=by
  refine rh Z [(c+937,li (ay v b1 b2 b3).params q0 y o ee)] hst (λp hp=>by cases FW.mp hp;exact hc) (λp hp=>by cases FW.mp hp;exact kC _ _) (by simp) λb hbe F=>?_
  rcases o with _|⟨q1,z1⟩
  ·skip
   refine da F 7 65 ?_
   intro sS
   refine i9 (r:=.ok .next) (by kernel_rfl) (by kernel_rfl) λhp H=>⟨rfl,hp,_,tk,ee+1,rfl,H.at 0 (p:=(c+937,li (ay v b1 b2 b3).params q0 y (some (tk,.str S k)) (ee+1))) (by kernel_rfl),λa o' hne e=>(H.keep a o' e (by simpa using hne)).1 FU,H.size▸H.grow⟩
  ·skip
   refine da F 7 65 ?_
   intro sS
   refine i9 (r:=.ok .next) (by kernel_rfl) (by kernel_rfl) λhp H=>⟨rfl,hp,_,q1,ee,rfl,H.at 0 (p:=(c+937,li (ay v b1 b2 b3).params q0 y (some (q1,.str S k)) ee)) (by kernel_rfl),λa o' hne e=>(H.keep a o' e (by simpa using hne)).1 FU,H.size▸H.grow⟩
 rw[←PySem.W.R.bindR_eq,←qe]at z
 exact wpOwn_mono (hH (k:=λ_=>PySem.Fin.done Flow.next) z) (λ_ s' h=>h.2) λe s' h=>by cases h.1
theorem wv{L:Nat}(Z:Rm A L none)(hst:cb w hb){q1 i:Nat}(hi:i<6)(hc:hb.get? (c+937)=some (li w.params q0 y (some (q1,.str (nm i) k)) ee)):
  wpOwn (model pw w) A (qC w.params y c co) (eval (tM dl) (lh w.params (c+937) (co+937)))
   (λv s'=>∃h' tk' t,s'=⟨h',g,d,tk',os⟩∧v=.str (qn i) t∧(∀b o,hb.get? b=some o→h'.get? b=some o)∧hb.objs.size≤h'.objs.size) E ⟨hb,g,d,tk,os⟩:=by
 obtain⟨v,b1,b2,b3,rfl⟩:=al w
 let R:Nat→Result→Shared→Prop:=λi r s'=>∃t,r=.ok (.ret (.str (qn i) t))∧∃h' tk',s'=⟨h',g,d,tk',os⟩∧(∀b o,hb.get? b=some o→h'.get? b=some o)∧hb.objs.size≤h'.objs.size
 have z:wpOwn (model pw (ay v b1 b2 b3)) A (qC (ay v b1 b2 b3).params y c co) (PySem.W.R.bindR (yB (tM dl) (lh (ay v b1 b2 b3).params (c+937) (co+937))) (λv=>Sem.pure (PySem.Fin.done (Flow.ret v)))) (postC pw (ay v b1 b2 b3) A (R i)) (postE (R i)) ⟨hb,g,d,tk,os⟩:=by
  refine rh Z [(c+937,li (ay v b1 b2 b3).params q0 y (some (q1,.str (nm i) k)) ee)] hst (λp hp=>by cases FW.mp hp;exact hc) (λp hp=>by cases FW.mp hp;exact kC _ _) (by simp) λb hbe F=>?_
  match i,hi,hc with
  |0,_,hc =>
   refine ex F Z 14 139586437184 ?_
   intro sS
   refine da F 42 0x2000000000002002 ?_
   intro sS
   exact i9 (r:=.ok (.ret (.str (qn 0) k))) (by kernel_rfl) (by kernel_rfl) λhp H=>⟨_,rfl,hp,_,rfl,mL hc H (by kernel_rfl)⟩
  |1,_,hc|3,_,hc|4,_,hc|5,_,hc =>
   refine ex F Z 14 139586437184 ?_
   intro sS
   refine da F 71 0x2000000000002002 ?_
   intro sS
   exact i9 (r:=.ok (.ret (.str (qn _) (tk+8)))) (by kernel_rfl) (by kernel_rfl) λhp H=>⟨_,rfl,hp,_,rfl,mL hc H (by kernel_rfl)⟩
  |2,_,hc =>
   refine ex F Z 14 139586437184 ?_
   intro sS
   refine px F 51 0x2000000000002002 (.builtin "str.replace") ([.str U9 k,.str vT (tk+4),.str Cg (tk+5)]) (λr=>.str CL r) (λB hp' H Q E k hq=>uW (Nat.succ_ne_zero _) (Nat.succ_ne_zero _) (λe=>absurd (Nat.add_left_cancel e) (by decide)) hq) (by kernel_rfl) (by kernel_rfl) (by kernel_rfl) λkk1 kl1=>?_
   refine da F 16 0 ?_
   intro sS
   exact i9 (r:=.ok (.ret (.str (qn 2) (kl1+2)))) (by kernel_rfl) (by kernel_rfl) λhp H=>⟨_,rfl,hp,_,rfl,mL hc H (by kernel_rfl)⟩
 rw[←PySem.W.R.bindR_eq,←vG]at z
 exact wpOwn_mono (hH (k:=λv=>PySem.Fin.done (Flow.ret v)) z) (λx s' h=>by
  obtain⟨t,e,h',tk',e2,e3⟩:=h
  cases e
  exact⟨h',tk',t,e2,rfl,e3⟩) λe s' h=>by obtain⟨t,e,_⟩:=h;cases e
end
end
section
noncomputable def wD:Expr→Bool
 |.Name _ _=>true
 |_=>false
noncomputable def yg:List Comprehension→Bool
 |[c]=>wD c.target&&(c.ifs.isEmpty&&c.is_async==0)
 |_=>false
noncomputable def fV:Expr→Bool
 |.GeneratorExp _ cs sc _=>yg cs&&!sc.isCoroutine
 |_=>false
theorem By{e:Expr}:wD e=true→∃x p,e=.Name x p:=by
 apply@Expr.casesOn (λe=>wD e=true→∃x p,e=.Name x p) e<;>intros
 case Name=>exact⟨_,_,rfl⟩
 all_goals (rename_i h;exact Bool.noConfusion h)
noncomputable def CV:Expr→Pos
 |.GeneratorExp _ (c::_) _ _=>c.iter.pos
 |e=>e.pos
theorem jQ{e:Expr}:fV e=true→∃elt x px iter sc pos,e=.GeneratorExp elt [⟨.Name x px,iter,[],0⟩] sc pos∧sc.isCoroutine=false:=by
 apply@Expr.casesOn (λe=>fV e=true→∃elt x px iter sc pos,e=.GeneratorExp elt [⟨.Name x px,iter,[],0⟩] sc pos∧sc.isCoroutine=false) e<;>intros
 case GeneratorExp elt cs sc pos h =>
  have h:(yg cs&&!sc.isCoroutine)=true:=h
  rw[Bool.and_eq_true,Bool.not_eq_true']at h
  obtain⟨h1,h2⟩:=h
  rcases cs with _|⟨⟨tg,it,ifs,as⟩,_|⟨c2,cs⟩⟩
  ·cases h1
  ·have h1:(wD tg&&(ifs.isEmpty&&as==0))=true:=h1
   rw[Bool.and_eq_true,Bool.and_eq_true]at h1
   obtain⟨h3,h4,h5⟩:=h1
   obtain⟨x,px,rfl⟩:=By h3
   obtain rfl:=List.isEmpty_iff.mp h4
   obtain rfl:=eq_of_beq h5
   exact⟨elt,x,px,it,sc,pos,rfl,h2⟩
  ·cases h1
 all_goals (rename_i h;exact Bool.noConfusion h)
theorem qt{E':Expr}(h:fV E'=true)(w:World)(it:Value)(env:Env):(model pw w).den (.compLoop E' 0 it .none env)=(compTurn E' 0 it .none env).onRaise (leaving env):=by
 obtain⟨elt,x,px,iter,sc,pos,rfl,_⟩:=jQ h
 rfl
theorem rR{E':Expr}(h:fV E'=true)(w:World)(it:Value)(env:Env):(model pw w).den (.compStart E' 0 it .none env)=(compStart E' 0 it .none env).onRaise (leaving env):=by
 obtain⟨elt,x,px,iter,sc,pos,rfl,_⟩:=jQ h
 rfl
theorem pe{E':Expr}(h:fV E'=true)(it:Value)(env:Env)(hsc:env.scope.isCoroutine=false):compTurn E' 0 it .none env=(do
  standAt (CV E')
  match ←pyNext it with
  |none=>pure (.done .next)
  |some v=>do
   assign (wu E') env v
   (do let v ←eval (tM E') env;standAt (tM E').pos;let _ ←yieldValue v)
   again (.compLoop E' 0 it .none env)):=by
 obtain⟨elt,x,px,iter,sc,pos,rfl,_⟩:=jQ h
 rw[compTurn_gen]
 have hy:∀v,yieldOut env v=yieldValue v:=λv=>by simp only[yieldOut,hsc,Bool.false_eq_true,if_false]
 simp only[hy]
 rfl
theorem pU{Γ:PySem.Ctx}{A:Around}(h:Γ.Woken A):(Γ.over []).Below A:=h.1
theorem rj{α:Type}{M:Model}{A:Around}{R:GenEnd}{Y:Protocol}{n:Nat}{s₀ s:Shared}{c:Code}{m:Sem α}{K:α→Sem PySem.Fin}{H:Value→Sem PySem.Fin}{gd lv}
  (h:wpOwn M A c m (λa s'=>Seg M A R Y n s₀ c (K a) [] s') (λx s'=>Seg M A R Y n s₀ c (H x) [] s') s):Seg M A R Y n s₀ c (m.wrap K H gd lv) [] s:=by
 rw[seg_iff]
 rintro Γ p rfl hΓ
 exact runs_wrap_of_wp K H gd lv m (h (Γ.over []) p rfl (pU hΓ)) (λa p' s' h'=>seg_iff.mp h' Γ p' rfl hΓ) (λx p' s' h'=>seg_iff.mp h' Γ p' rfl hΓ)
theorem ny{M:Model}{A:Around}{R:GenEnd}{Y:Protocol}{n:Nat}{s₀:Shared}{c:Code}{s:Shared}{α β:Type}{m:Sem α}{K:α→Sem β}{K':β→Sem PySem.Fin}{H':Value→Sem PySem.Fin}{gd lv}
  (h:wpOwn M A c m (λa s'=>Seg M A R Y n s₀ c ((K a).wrap K' H' gd lv) [] s') (λx s'=>Seg M A R Y n s₀ c (H' x) [] s') s):Seg M A R Y n s₀ c ((m>>=K).wrap K' H' gd lv) [] s:=by
 rw[Sem.bind_eq_wrap',Sem.wrap_wrap]
 exact rj h
structure vY(w:World)(x y c q0:Nat)(vs:List Value)(j:Nat)(h:Heap):Prop where
 st:cb w h
 it:h.IsListIter (y+937) (x+937) j
 ls:h.IsList (x+937) ⟨vs⟩
 fr:∃o ee,h.get? (c+937)=some (li w.params q0 y o ee)
noncomputable abbrev pn:Nat→Bool:=λ_=>true
theorem rr{w:World}{h h':Heap}(st:cb w h)(a:Nat)(k:∀b o,b≠a+937→h.get? b=some o→h'.get? b=some o):cb w h':=λb o e=>
 k b o (λq=>by subst q;exact kC w a o e) (st b o e)
section
variable{w:World}{A:Around}{x y c co q0:Nat}{is:List Nat}{ps:List SV}
noncomputable def FJ(is:List Nat)(i:Nat)(v:Value):Prop:=∃t,v=.str (qn (is.getD i 0)) t
theorem BW{E':Expr}{env:Env}(hg:fV E'=true)(hsc:env.scope.isCoroutine=false)(hq:(Code.compLoop E' 0 (.ref (y+937)) .none env).quiet=true)
  (hA:∀{hb:Heap}{g:Array GenState}{d:Drawn}{tk:Nat}{os:OsState}{o:Option (Tok×Value)}{ee k:Nat}{S:Str}{E:Value→Shared→Prop},cb w hb→hb.get? (c+937)=some (li w.params q0 y o ee)→
   wpOwn (model pw w) A (.compLoop E' 0 (.ref (y+937)) .none env) (assign (wu E') env (.str S k)) (λ_ s'=>∃h' tk' q ee',s'=⟨h',g,d,tk',os⟩∧h'.get? (c+937)=some (li w.params q0 y (some (q,.str S k)) ee')∧(∀b o,b≠c+937→hb.get? b=some o→h'.get? b=some o)∧hb.objs.size≤h'.objs.size) E ⟨hb,g,d,tk,os⟩)
  (hE:∀{hb:Heap}{g:Array GenState}{d:Drawn}{tk:Nat}{os:OsState}{ee k q1 i:Nat}{E:Value→Shared→Prop},cb w hb→i<6→hb.get? (c+937)=some (li w.params q0 y (some (q1,.str (nm i) k)) ee)→
   wpOwn (model pw w) A (.compLoop E' 0 (.ref (y+937)) .none env) (eval (tM E') env) (λv s'=>∃h' tk' t,s'=⟨h',g,d,tk',os⟩∧v=.str (qn i) t∧(∀b o,hb.get? b=some o→h'.get? b=some o)∧hb.objs.size≤h'.objs.size) E ⟨hb,g,d,tk,os⟩)
  (hh:A.handled=none) (hxy:x≠y) (hyc:y<c) (hxc:x<c) (hp:ps.map (·.1)=is.map nm) (hi:∀i∈is,i<6):
  ∀(k j:Nat)(s₀ s:Shared),ps.length-j=k→j≤ps.length→vY w x y c q0 (ps.map sv) j s.heap→GenSince (c+937) [y+937] s₀ s→
   Seg (model pw w) A (λn s₀ r s₁=>r=.ok .next∧(n=0∧GenSince (c+937) [y+937] s₀ s₁)) (genProto (c+937) (List.range (c+937)) [y+937] pn ps.length (FJ is)) (passing pn ps.length j).length s₀
    (.compLoop E' 0 (.ref (y+937)) .none env) ((model pw w).den (.compLoop E' 0 (.ref (y+937)) .none env)) [] s:=by
 have hne:(x+937:Addr)≠y+937:=λe=>hxy (Nat.add_right_cancel e)
 have hyc':(y+937:Addr)≠c+937:=λe=>Nat.ne_of_lt hyc (Nat.add_right_cancel e)
 have hxc':(x+937:Addr)≠c+937:=λe=>Nat.ne_of_lt hxc (Nat.add_right_cancel e)
 have hsz:(⟨ps.map sv⟩:Array Value).size=ps.length:=by simp
 intro k
 induction k with
 |zero =>
  intro j s₀ s hk hj I hs
  have hjn:j=ps.length:=by lia
  subst hjn
  rw[qt hg,pe hg _ _ hsc,Sem.onRaise_eq_wrap]
  refine seg_bind_wrap (wpAny_standAt ?_)
  have W:=Walks.list (prog:=pw) (w:=w) (A:=A.over (.compLoop E' 0 (.ref (y+937)) .none env) []) hh (y+937) (x+937) hne ⟨ps.map sv⟩
  refine seg_bind_wrap (W.done s _ _ ⟨hsz▸I.it,I.ls⟩ λh' tk hk'=>?_)
  exact seg_end (.ok .next) ⟨rfl,by rw[passing_end];rfl,hs.step λb o _ hw e=>hk' b o hw e⟩
 |succ k ih =>
  intro j s₀ s hk hj I hs
  have hlt:j<ps.length:=by lia
  rw[qt hg,pe hg _ _ hsc,Sem.onRaise_eq_wrap]
  refine seg_bind_wrap (wpAny_standAt ?_)
  have W:=Walks.list (prog:=pw) (w:=w) (A:=A.over (.compLoop E' 0 (.ref (y+937)) .none env) []) hh (y+937) (x+937) hne ⟨ps.map sv⟩
  refine seg_bind_wrap (W.item j s _ _ (by rw[hsz];exact hlt) ⟨I.it,I.ls⟩ λv h₁ tk₁ hv hst₁ hk₁=>?_)
  obtain⟨p,hpj⟩:∃p,ps[j]?=some p:=⟨ps[j],List.getElem?_eq_getElem hlt⟩
  obtain rfl:sv p=v:=by
   have:(ps.map sv)[j]?=some v:=by simpa using hv
   rw[List.getElem?_map,hpj]at this
   exact Option.some.inj this
  obtain⟨i,hij,hpi⟩:∃i,is[j]?=some i∧p.1=nm i:=by
   have:(ps.map (·.1))[j]?=some p.1:=by rw[List.getElem?_map,hpj];rfl
   rw[hp,List.getElem?_map]at this
   obtain⟨i,e1,e2⟩:=Option.map_eq_some_iff.mp this
   exact⟨i,e1,e2.symm⟩
  have hi6:i<6:=hi i (List.mem_of_getElem? hij)
  have hgd:is.getD j 0=i:=by rw[List.getD_eq_getElem?_getD,hij];rfl
  have st₁:cb w h₁:=rr I.st y λb o hb e=>hk₁ b o (by simpa using hb) e
  obtain⟨o,ee,hfr⟩:=I.fr
  have hfr₁:=hk₁ (c+937) _ (by simpa using hyc'.symm) hfr
  obtain⟨S,tS⟩:=p
  have hpi:S=nm i:=hpi
  subst hpi
  refine ny (wpOwn_mono (hA (k:=tS) (E:=λ_ _=>False) st₁ hfr₁) (λ_ s2 h2=>?_) λ_ _ e=>e.elim)
  obtain⟨h₂,tk₂,q,ee₂,rfl,hfr₂,hk₂,_⟩:=h2
  have st₂:cb w h₂:=rr st₁ c hk₂
  rw[Sem.bind_eq_wrap',Sem.bind_eq_wrap',Sem.wrap_wrap,Sem.wrap_wrap]
  refine rj (wpOwn_mono (hE (E:=λ_ _=>False) st₂ hi6 hfr₂) (λyv s3 h3=>?_) λ_ _ e=>e.elim)
  obtain⟨h₃,tk₃,t,rfl,rfl,hk₃,_⟩:=h3
  rw[passing_true hlt rfl,FT]
  have up:∀b o,b≠c+937→b∉[y+937]→s.heap.get? b=some o→h₃.get? b=some o:=λb o hb hw e=>hk₃ b o (hk₂ b o hb (hk₁ b o hw e))
  have it₃:h₃.IsListIter (y+937) (x+937) (j+1):=hst₁.1.at λo e=>hk₃ _ o (hk₂ _ o hyc' e)
  have ls₃:h₃.IsList (x+937) ⟨ps.map sv⟩:=hst₁.2.at λo e=>hk₃ _ o (hk₂ _ o hxc' e)
  have st₃:cb w h₃:=λb o e=>hk₃ b o (st₂ b o e)
  refine seg_at (seg_yield rfl rfl rfl ⟨⟨j,passing_here hlt rfl,t,by rw[hgd]⟩,hs.step λb o hb hw e=>up b o hb hw e,λs'' hal=>?_⟩)
  have hal':∀b o,b<c+937→h₃.get? b=some o→s''.heap.get? b=some o:=λb o hb e=>hal b (List.mem_cons_of_mem _ (List.mem_range.mpr hb)) o e
  refine seg_again hq (ih (j+1) s'' s'' (by lia) hlt ⟨λb o e=>hal' b o ?_ (st₃ b o e),it₃.at λo e=>hal' _ o (by lia) e,ls₃.at λo e=>hal' _ o (by lia) e,_,ee₂,hal _ (List.mem_cons_self ..) _ (hk₃ _ _ hfr₂)⟩ (GenSince.refl _ _ _))
  rcases Nat.lt_or_ge b (c+937)with q|q
  ·exact q
  ·obtain⟨b',rfl⟩:∃b',b=b'+937:=⟨b-937,(Nat.sub_add_cancel (Nat.le_trans (Nat.le_add_left 937 c) q)).symm⟩
   exact absurd e (kC w b' o)
end
end
section
theorem zh:∀(rest:List Nat)(σ:Nat)(q:Bool)(T T':List Nat)(q':Bool)(r':List Nat),ix σ q T rest=some (T',q',r',true)→r'=[]:=by
 intro rest
 induction rest with
 |nil =>
  intro σ q T T' q' r' h
  rw[ix]at h
  split at h
  ·have h:T=T'∧q=q'∧[]=r':=by simpa using h
   exact h.2.2.symm
  ·cases h
 |cons c r ih =>
  intro σ q T T' q' r' h
  rw[ix]at h
  repeat' split at h
  all_goals first
   |exact ih _ _ _ _ _ _ h
   |(cases h;done)
   |(simp at h;done)
theorem zg{rest T' r':List Nat}{q':Bool}(h:ko rest=some (T',q',r',true)):r'=[]:=by
 rcases rest with _|⟨c,r⟩
 ·cases h
 ·rw[ko]at h
  repeat' split at h
  all_goals first
   |exact zh _ _ _ _ _ _ _ h
   |(cases h;done)
noncomputable def ca:Nat→List Nat→Option (List (List Nat))
 |0,_=>none
 |n+1,rest=>match ko rest with
  |none=>none
  |some (T',_,r',e)=>if T'=[]then none else if e=true then some [T']else(ca n r').map (T'::·)
noncomputable abbrev tH(l x1:Nat):Code:=.builtin "list.extend.loop" ⟨[.ref (l+937),.ref (x1+937),.none],[]⟩
section
variable{w:World}{x1 x2 y1 y2 d1 d2 k1 k2 k3 t1 t2 ep ep3 l:Nat}{κ ν:Nat→Nat}{S:Str}
theorem wq{tt t3 p el:Nat}{vs:List Value}(hS:S.length≤1000)(hp:p=S.length):
  aR w 6 none [] (tH l x1) ([(l+937,aa vs el)]++cH w.params κ ν x1 x2 y1 y2 d1 d2 k1 k2 k3 t1 t2 t3 S p .none (.str (u []) tt) ep ep3)
   (X:=Unit) (λ_ _=>True) (λ_=>.ok (.ret .none)) (λ_=>[(l+937,aa vs el)]):=by
 obtain⟨v,b1,b2,b3,rfl⟩:=al w
 have z:aR (ay v b1 b2 b3) 6 none [] (tH l x1) (([(l+937,aa vs el)]++cH (ay v b1 b2 b3).params κ ν x1 x2 y1 y2 d1 d2 k1 k2 k3 t1 t2 t3 S p .none (.str (u []) tt) ep ep3)++[])
   (X:=Unit) (λ_ _=>True) (λ_=>.ok (.ret .none)) (λ_=>[(l+937,aa vs el)]):=by
  refine aZ _ [] λA R d os hb m0 g tk b outer Z F E N=>?_
  refine da F 5 2 ?_
  intro sS
  refine aw [0] [1,2,3,4,5,6] (cH (ay v b1 b2 b3).params κ ν x1 x2 y1 y2 d1 d2 k1 k2 k3 t1 t2 t3 S p .none (.str (u []) tt) ep ep3) [] (cH (ay v b1 b2 b3).params κ ν x1 x2 y1 y2 d1 d2 k1 k2 k3 t1 t2 t3 S p .none (.str (u []) tt) ep ep3) (by rw[FK];exact FL _) ?_
  intro sS
  refine c0 (L':=5) (hd':=none) F Z N 0 0 [] (cH (ay v b1 b2 b3).params κ ν x1 x2 y1 y2 d1 d2 k1 k2 k3 t1 t2 t3 S p .none (.str (u []) tt) ep ep3) [] (λ(x:k9)=>[]) (λ(x:k9)=>[(x.m+938,sJ x.m (.ref (x.T+937))),(x.T+937,iW .none (x.L+937) x.cs)]) (λ_=>[]) (uG (tt:=tt) (t3:=t3) hS hp) [] (by rw[FK]) λ(x:k9)m1 kk1 g1 _=>?_
  intro sS
  exact fx F E 1 2 [0] () _ [] [] (FL _) (FK _).symm trivial
 rwa[FK]at z
theorem tI(hS:S.length≤1000):∀(n:Nat)(rest:List Nat)(p el t3 ts tt:Nat)(vs:List Value)(toks:List (List Nat)),
  S.cps.toList.drop p=rest→p≤S.length→ca n rest=some toks→vs.length+toks.length≤1000→
  aR w 6 none [] (tH l x1) ([(l+937,aa vs el)]++cH w.params κ ν x1 x2 y1 y2 d1 d2 k1 k2 k3 t1 t2 t3 S p (.str U1 ts) (.str (u []) tt) ep ep3)
   (X:=List SV×Nat) (λ_ y=>y.1.map (·.1)=toks.map u) (λ_=>.ok (.ret .none)) (λy=>[(l+937,aa (vs++y.1.map sv) y.2)]):=by
 obtain⟨v,b1,b2,b3,rfl⟩:=al w
 intro n
 induction n with
 |zero=>exactλ_ _ _ _ _ _ _ _ _ _ h=>by cases h
 |succ n ih =>
  intro rest p el t3 ts tt vs toks hd hpl hL hn
  rw[ca]at hL
  split at hL
  ·cases hL
  rename_i T' q' r' e h
  split at hL
  ·cases hL
  rename_i hne
  have hpush:vs.length+1≤1000:=by
   split at hL
   ·cases hL;exact hn
   ·obtain⟨tk2,_,rfl⟩:=Option.map_eq_some_iff.mp hL
    rw[FT]at hn
    lia
  have hline:(vs++[Value.none]).length≤sizeLine:=by rw[FZ,sizeLine_eq];exact Nat.le_trans hpush (by decide)
  have z:aR (ay v b1 b2 b3) 6 none [] (tH l x1) (([(l+937,aa vs el)]++cH (ay v b1 b2 b3).params κ ν x1 x2 y1 y2 d1 d2 k1 k2 k3 t1 t2 t3 S p (.str U1 ts) (.str (u []) tt) ep ep3)++[])
   (X:=List SV×Nat) (λ_ y=>y.1.map (·.1)=toks.map u) (λ_=>.ok (.ret .none)) (λy=>[(l+937,aa (vs++y.1.map sv) y.2)]):=by
   refine aZ _ [] λA R d os hb m0 g tk b outer Z F E N=>?_
   refine cx (post:=λ(x:Aa)=>cH (ay v b1 b2 b3).params κ ν x1 x2 y1 y2 d1 d2 k1 k2 k3 t1 t2 x.t3 S x.p (gJ e x.ts) (.str (u []) x.tt) ep ep3) (L':=4) (hd':=none) F Z 5 2 (zo (ts:=ts) (tt:=tt) (t3:=t3) hS hd hpl h hne) [1,2,3,4,5,6] λ(x:Aa)m1 kk1 g1 hx=>?_
   intro sS
   refine kp F 2 65 0 (l+937) (aa (vs++[.str (u T') x.rt]) (el+1)) ([(l+937,Obj.mapSeq (λa=>pc a (.str (u T') x.rt)) (aa vs el))]++cH (ay v b1 b2 b3).params κ ν x1 x2 y1 y2 d1 d2 k1 k2 k3 t1 t2 x.t3 S x.p (gJ e x.ts) (.str (u []) x.tt) ep ep3) ([(l+937,aa (vs++[.str (u T') x.rt]) (el+1))]++cH (ay v b1 b2 b3).params κ ν x1 x2 y1 y2 d1 d2 k1 k2 k3 t1 t2 x.t3 S x.p (gJ e x.ts) (.str (u []) x.tt) ep ep3) (.pure (.again (tH l x1))) (by rw[uQ]) (r7 _ _ (by rw[FZ]at hline⊢;exact hline)) (by kernel_rfl) (by kernel_rfl) (by kernel_rfl) (by kernel_rfl) (by kernel_rfl) ?_
   cases e with
   |true =>
    rw[if_pos rfl]at hL
    cases hL
    have hx2:x.p=S.length:=n9 (zg h▸hx.1) hx.2
    have I:=wq (w:=ay v b1 b2 b3) (x1:=x1) (x2:=x2) (y1:=y1) (y2:=y2) (d1:=d1) (d2:=d2) (k1:=k1) (k2:=k2) (k3:=k3) (t1:=t1) (t2:=t2) (ep:=ep) (ep3:=ep3) (l:=l) (κ:=κ) (ν:=ν) (tt:=x.tt) (t3:=x.t3) (el:=el+1) (vs:=vs++[.str (u T') x.rt]) hS hx2
    exact an F E Z N 0 0 ([(l+937,aa (vs++[.str (u T') x.rt]) (el+1))]++cH (ay v b1 b2 b3).params κ ν x1 x2 y1 y2 d1 d2 k1 k2 k3 t1 t2 x.t3 S x.p .none (.str (u []) x.tt) ep ep3) [] [] (by rw[FK];exact I) [0,1,2,3,4,5,6] (FL _) (λhp nx H=>⟨trivial,λ_ h=>by cases h⟩) (λn x' _ hC=>⟨([(u T',x.rt)],el+1),rfl,rfl,λ_ h=>h,id⟩)
   |false =>
    rw[if_neg Bool.false_ne_true]at hL
    obtain⟨toks2,hL2,rfl⟩:=Option.map_eq_some_iff.mp hL
    have I:=ih r' x.p (el+1) x.t3 x.ts x.tt (vs++[.str (u T') x.rt]) toks2 hx.1 hx.2 hL2 (by rw[FZ,List.length_singleton];rw[FT]at hn;lia)
    exact an F E Z N 0 0 ([(l+937,aa (vs++[.str (u T') x.rt]) (el+1))]++cH (ay v b1 b2 b3).params κ ν x1 x2 y1 y2 d1 d2 k1 k2 k3 t1 t2 x.t3 S x.p (.str U1 x.ts) (.str (u []) x.tt) ep ep3) [] [] (by rw[FK];exact I) [0,1,2,3,4,5,6] (FL _) (λhp nx H=>⟨trivial,λ_ h=>by cases h⟩) (λn(y:List SV×Nat)_ hC=>⟨((u T',x.rt)::y.1,y.2),congrArg (u T'::·) hC,rfl,λp hp=>by rw[FV];exact hp,λnd=>by rw[FV]at nd;exact nd⟩)
  rwa[FK]at z
end
end
noncomputable def zN(a b:Addr):Sem PySem.Fin:=PySem.W.Fast.tw8938917530802602619 (.ref a) (.ref b) .none
theorem xv{a b:Addr}(h:a≠b):Builtin.List.listSameRef (.ref a) (.ref b)=false:=by
 show(a==b)=false
 exact beq_eq_false_iff_ne.mpr h
noncomputable def A8(a b:Addr):(T:Sem PySem.Fin)×' (a≠b→zN a b=T):=⟨_,λh=>by
 unfold zN PySem.W.Fast.tw8938917530802602619
 rw[xv h]⟩
section
theorem aI.ne{kt:Addr→Option Obj}{hb h:Heap}{m0:cM}{os:ah}{nx:Nat}{fr:ah}(H:aI kt hb m0 h (os++fr) nx)(i j:Nat){p q:Addr×Obj}(hi:gM os i=some p)(hj:gM os j=some q)(hij:i≠j):p.1≠q.1:=λe=>by
 have nd:=H.nd
 rw[FM]at nd
 have nd:=(List.nodup_append.mp nd).1
 rw[bO]at hi hj
 have u1:(os.map (·.1))[i]?=some p.1:=by rw[List.getElem?_map,hi];rfl
 have u2:(os.map (·.1))[j]?=some p.1:=by rw[List.getElem?_map,hj,e];rfl
 have hlt:i<(os.map (·.1)).length:=(List.getElem?_eq_some_iff.mp u1).1
 exact hij ((List.getElem?_inj hlt nd).mp (u1.trans u2.symm))
section
variable{w:World}{hd:Option Value}{A:Around}{R:Result→Shared→Prop}{d:Drawn}{os:OsState}{hb:Heap}{m0:cM}{g:Array GenState}{fr:ah}{s:St}
theorem FH(F:fP w hd A R d os hb m0)(n pl:Nat)(ok:(go (ag w hd) n pl s).Y=true)(ab:(go (ag w hd) n pl s).A=(go (ag w hd) n pl s).B)(t₁ t₂:Sem PySem.Fin)(e₁:(go (ag w hd) n pl s).S.T=t₁)
  (e₂:∀hp,aI (bo w) hb m0 hp ((go (ag w hd) n pl s).S.O++fr) (go (ag w hd) n pl s).S.N→t₁=t₂)
  (h:Gd (aG w A R d os hb m0 g fr) ((go (ag w hd) n pl s).S.setT t₂)):Gd (aG w A R d os hb m0 g fr) s:=by
 refine eI (F g fr) n pl ok ab ?_
 revert h e₁ e₂
 generalize (go (ag w hd) n pl s).S=s'
 intro e₁ e₂ h
 obtain⟨c,κ,t,oo,nx,tk⟩:=s'
 have e₁:t=t₁:=e₁
 subst e₁
 refine⟨λhp H=>?_⟩
 have e:=e₂ hp H
 subst e
 exact h.run hp H
end
section
variable{w:World}{x1 x2 y1 y2 d1 d2 k1 k2 k3 t1 t2 ep ep3 l:Nat}{κ ν:Nat→Nat}{S:Str}
theorem se{tt ts t3 p n:Nat}{rest:List Nat}{toks:List (List Nat)}(hS:S.length≤1000)(hd:S.cps.toList.drop p=rest)(hpl:p≤S.length)(hL:ca n rest=some toks)(hn:toks.length≤1000):
  aR w 6 none [] (.call (.builtin "list.__init__") ⟨[.ref (l+937),.ref (x1+937)],[]⟩) ([(l+937,aa [] 0)]++cH w.params κ ν x1 x2 y1 y2 d1 d2 k1 k2 k3 t1 t2 t3 S p (.str U1 ts) (.str (u []) tt) ep ep3)
   (X:=List SV×Nat) (λ_ y=>y.1.map (·.1)=toks.map u) (λ_=>.ok (.ret .none)) (λy=>[(l+937,aa (y.1.map sv) y.2)]):=by
 have I:=λel=>tI (w:=w) (x1:=x1) (x2:=x2) (y1:=y1) (y2:=y2) (d1:=d1) (d2:=d2) (k1:=k1) (k2:=k2) (k3:=k3) (t1:=t1) (t2:=t2) (ep:=ep) (ep3:=ep3) (l:=l) (κ:=κ) (ν:=ν) hS n rest p el t3 ts tt [] toks hd hpl hL (by rw[List.length_nil];lia)
 have z:aR w 6 none [] (.call (.builtin "list.__init__") ⟨[.ref (l+937),.ref (x1+937)],[]⟩) (([(l+937,aa [] 0)]++cH w.params κ ν x1 x2 y1 y2 d1 d2 k1 k2 k3 t1 t2 t3 S p (.str U1 ts) (.str (u []) tt) ep ep3)++[])
   (X:=List SV×Nat) (λ_ y=>y.1.map (·.1)=toks.map u) (λ_=>.ok (.ret .none)) (λy=>[(l+937,aa (y.1.map sv) y.2)]):=by
  refine aZ _ [] λA R d os hb m0 g tk b outer Z F E N=>?_
  refine FH F 6 17043521 (by kernel_rfl) (by kernel_rfl) (zN (l+937) (x1+937)) (A8 (l+937) (x1+937)).1 (by kernel_rfl) (λhp H=>(A8 (l+937) (x1+937)).2 (H.ne 0 1 (p:=(l+937,aa [] 0)) (q:=(x1+937,ap 859 (x2+937))) (by kernel_rfl) (by kernel_rfl) (by decide))) ?_
  refine ex F Z 18 0x8200000f80000080000082 ?_
  intro sS
  exact an F E Z N 25 0x1041041040000080000080000088 ([(l+937,aa [] 2)]++cH w.params κ ν x1 x2 y1 y2 d1 d2 k1 k2 k3 t1 t2 t3 S p (.str U1 ts) (.str (u []) tt) ep ep3) [] [] (by rw[FK];exact I 2) [0,1,2,3,4,5,6] (FL _) (λhp nx H=>⟨trivial,λ_ h=>by cases h⟩) (λn(y:List SV×Nat)_ hC=>⟨y,hC,rfl,λ_ h=>h,id⟩)
 rwa[FK]at z
end
end
section
theorem sE{w:World}{A:Around}{x y c q0:Nat}{ps:List SV}{E':Expr}{env:Env}(hg:fV E'=true)(hh:A.handled=none)(hxy:x≠y)(hq:(Code.compLoop E' 0 (.ref (y+937)) .none env).quiet=true){R:GenEnd}{Y:Protocol}{n:Nat}{s₀ s:Shared}(I:vY w x y c q0 (ps.map sv) 0 s.heap)
  (L:Seg (model pw w) A R Y n s₀ (.compLoop E' 0 (.ref (y+937)) .none env) ((model pw w).den (.compLoop E' 0 (.ref (y+937)) .none env)) [] s):
  Seg (model pw w) A R Y n s₀ (.compStart E' 0 (.ref (y+937)) .none env) ((model pw w).den (.compStart E' 0 (.ref (y+937)) .none env)) [] s:=by
 rw[rR hg]
 obtain⟨elt,x',px,iter,sc,pos,rfl,_⟩:=jQ hg
 have W:=Walks.list (prog:=pw) (w:=w) (A:=A.over (.compStart (.GeneratorExp elt [⟨.Name x' px,iter,[],0⟩] sc pos) 0 (.ref (y+937)) .none env) []) hh (y+937) (x+937) (λe=>hxy (Nat.add_right_cancel e)) ⟨ps.map sv⟩
 unfold compStart
 rw[Sem.onRaise_eq_wrap]
 show Seg _ A _ _ _ s₀ _ ((ask>>=_).wrap _ _ _ _) [] s
 refine seg_bind_wrap (wpAny_askSetting ?_)
 split
 ·exact seg_again hq L
 ·refine seg_bind_wrap (wpAny_rule ?_)
  show Seg _ A _ _ _ s₀ _ ((standAt iter.pos>>=_).wrap _ _ _ _) [] s
  exact seg_bind_wrap (wpAny_standAt (seg_bind_wrap (W.self 0 s _ _ ⟨I.it,I.ls⟩ (seg_again hq L))))
theorem qj{g:Array GenState}(h:leftWithCleanup g=false):∀x∈g,x.bare=true:=by
 unfold leftWithCleanup at h
 rw[Array.any_eq_false']at h
 intro x hx
 have:=h x hx
 cases x with
 |suspended k l c p fs cl=>cases cl<;>first|rfl|exact absurd rfl this
 |_=>rfl
theorem sy(g:GB)(c:Code):leftWithCleanup (g.1.push (.fresh c))=false:=leftWithCleanup_false_of_bare λx hx=>by
 rcases Array.mem_push.mp hx with h|rfl
 ·exact qj g.2 x h
 ·rfl
noncomputable def GB.push(g:GB)(c:Code):GB:=⟨g.1.push (.fresh c),sy g c⟩
noncomputable def yh:Sem PySem.Fin→Bool
 |.newGen ..=>true
 |_=>false
noncomputable def Bx:Sem PySem.Fin→Code
 |.newGen c _=>c
 |_=>.block [] default
noncomputable def C4(n:Nat):Sem PySem.Fin→Sem PySem.Fin
 |.newGen _ k=>k n
 |t=>t
section
variable{w:World}{hd:Option Value}{A:Around}{R:Result→Shared→Prop}{d:Drawn}{os:OsState}{hb:Heap}{m0:cM}{fr:ah}{s:St}{L:Nat}
theorem kg{g:GB}(F:fP w hd A R d os hb m0)(n pl:Nat)(c:Code)(ok:((go (ag w hd) n pl s).Y&&yh (go (ag w hd) n pl s).S.T)=true)(ab:(go (ag w hd) n pl s).A=(go (ag w hd) n pl s).B)(hc:Bx (go (ag w hd) n pl s).S.T=c)
  (h:Gd (aG w A R d os hb m0 (g.push c) fr) ((go (ag w hd) n pl s).S.mapT (C4 g.1.size))):Gd (aG w A R d os hb m0 g fr) s:=by
 rw[Bool.and_eq_true]at ok
 refine eI (F g fr) n pl ok.1 ab ?_
 obtain⟨_,ok⟩:=ok
 revert h hc ok
 generalize (go (ag w hd) n pl s).S=s'
 intro hc h ok
 obtain⟨c',κ,t,oo,nx,tk⟩:=s'
 have ok:yh t=true:=ok
 have hc:Bx t=c:=hc
 refine⟨λhp H=>?_⟩
 have z:=h.run hp H
 cases t with
 |newGen c2 k =>
  have hc:c2=c:=hc
  subst hc
  exact wpOwn_bind (m:=newGen c2) (f:=k) (wpOwn_of_wpAny (wpAny_newGen z))
 |_=>cases ok
theorem aI.moved{kt:Addr→Option Obj}{hb hp h':Heap}{m0:cM}{ks ds:ah}{nx:Nat}(H:aI kt hb m0 hp (ks++ds) nx)(hm:∀b o,b∉ds.map (·.1)→hp.get? b=some o→h'.get? b=some o)(hz:nx≤h'.objs.size):aI kt hb m0 h' (ks++[]) h'.objs.size:=by
 have nd:=H.nd
 rw[FM]at nd
 obtain⟨n1,n2,n3⟩:=List.nodup_append.mp nd
 have out:∀b o,hb.get? b=some o→b∉m0.l→b∉ds.map (·.1):=λb o e hb' hd'=>by
  obtain⟨p,hp',rfl⟩:=FX.mp hd'
  rcases H.low p (FO _ hp')with q|q
  ·exact hb' q
  ·exact absurd (Heap.lt_size e) (Nat.not_lt.mpr q)
 rw[FK]
 refine⟨rfl,λa o e=>hm a o (λhd'=>?_) (H.st a o e),λp hp'=>hm _ _ (λhd'=>n3 _ (FP hp') _ hd' rfl) (H.own p (FN _ hp')),λp hp'=>H.off p (FN _ hp'),n1,λp hp'=>H.low p (FN _ hp'),λb o e hb'=>?_,Nat.le_trans H.grow hz⟩
 ·obtain⟨p,hp',rfl⟩:=FX.mp hd'
  exact H.off p (FO _ hp') o e
 ·obtain⟨k1,sl,k2⟩:=H.keep b o e hb'
  have hn:=out b o e hb'
  exact⟨λq=>hm b o hn (k1 q),sl,hm b _ hn k2⟩
theorem vg{α:Type}{M:Model}{A:Around}{c:Code}{f:Value}{pos:List Value}{gd:Bool}{l:List Value}{k:Result→Sem α}{Q:α→Shared→Prop}{E:Value→Shared→Prop}{s:Shared}
  (h:wpAny M (A.under c) (PySem.call f pos) (λv s'=>wpOwn M A c (k (.ok (.ret v))) Q E s') (λ_ _=>False) s):wpOwn M A c (.call (.call f ⟨pos,[]⟩) none gd l k) Q E s:=oW h
noncomputable abbrev Be(n:Nat)(a b:Value):Obj:=⟨.type "generator",none,.fields ⟨[.int n 0,a,b]⟩,⟨[]⟩⟩
theorem qJ{is:List Nat}(hl:is.length≤18):JoinOk U1 (is.map qn)=true:=by
 have hq:∀i,(qn i).length≤10:=λi=>by
  match i with
  |0|1|2|3|4=>decide
  |i+5=>show 4≤10;decide
 have:∀(l:List Nat)(a:Nat),(l.map qn).foldl (λn x=>n+x.length+U1.length) a≤a+11*l.length:=by
  intro l
  induction l with
  |nil=>exactλ_=>Nat.le_refl _
  |cons i l ih =>
   intro a
   rw[FR,List.foldl_cons,FT]
   refine Nat.le_trans (ih _) ?_
   have:=hq i
   have e:U1.length=1:=rfl
   rw[e]
   lia
 unfold JoinOk
 have z:=this is 0
 rw[List.foldl_toArray]
 have:¬(((is.map qn).foldl (λn x=>n+x.length+U1.length) 0)>sizeLine):=by rw[sizeLine_eq];lia
 show(!(decide _))=true
 rw[decide_eq_false this]
 rfl
end
section
variable{w:World}{A:Around}{R:Result→Shared→Prop}{d:Drawn}{os:OsState}{hb:Heap}{m0:cM}{s:St}{L:Nat}{x y c co q0 q1 ee a ep:Nat}{is:List Nat}{ps:List SV}
theorem kj{g:GB}(F:fP w none A R d os hb m0)(Z:Rm A L none)(n pl jx ja:Nat)(gi:Nat)(gc:Code)(nm1 nm2:Value)(t:Tok)
  (hgc:gc=.compStart dl 0 (.ref (y+937)) .none (lh w.params (c+937) (co+937))) (hgg:g.1[gi]?=some (.fresh gc))
  (hp:ps.map (·.1)=is.map nm) (hi:∀i∈is,i<6) (hl:is.length≤18) (hyc:y<c) (hac:a=c+1) (hj:jx≠ja)
  (ok:((go (ag w none) n pl s).Y&&(pS 2 L&&dh (go (ag w none) n pl s).S))=true) (ab:(go (ag w none) n pl s).A=(go (ag w none) n pl s).B)
  (ec:ce (go (ag w none) n pl s).S.T=.call (.builtin "str.join") ⟨[.str U1 t,.ref (a+937)],[]⟩) (hh:aB none (go (ag w none) n pl s).S.K=none)
  (hx:gM (go (ag w none) n pl s).S.O jx=some (x+937,aa (ps.map sv) ep)) (ha:gM (go (ag w none) n pl s).S.O ja=some (a+937,Be gi nm1 nm2)) (hN:(go (ag w none) n pl s).S.N=a+938)
  (h:∀(t' m tk:Nat)(g':GB),Gd (aG w A R d os hb m0 g' []) ((go (ag w none) n pl s).S.next (λT=>cu T (.ok (.ret (.str (Txt.join U1 (is.map qn)) t')))) (λos=>os) (m+937) tk)):
  Gd (aG w A R d os hb m0 g [(y+937,ai (x+937) 0),(c+937,li w.params q0 y none ee)]) s:=by
 simp only[Bool.and_eq_true]at ok
 refine eI (F g _) n pl ok.1 ab ?_
 obtain⟨_,hl',ic⟩:=ok
 revert ec hh hx ha hN h ic
 generalize (go (ag w none) n pl s).S=s
 intro ec hh hx ha hN h ic
 obtain⟨ic,eh,ed,eu⟩:=dK ic
 have ic:cG s.t=true:=ic
 have ec:ce s.t=.call (.builtin "str.join") ⟨[.str U1 t,.ref (a+937)],[]⟩:=ec
 have eh:b9 s.t=none:=eh
 have hh:aB none s.κ=none:=hh
 have ed:n7 s.κ+wt s.c≤40:=ed
 have eu:sP s.κ+un s.c≤100:=eu
 have hx:gM s.os jx=some (x+937,aa (ps.map sv) ep):=hx
 have ha:gM s.os ja=some (a+937,Be gi nm1 nm2):=ha
 have hN:s.nx=a+938:=hN
 have h:∀(t' m tk:Nat)(g':GB),Gd (aG w A R d os hb m0 g' []) ⟨s.c,s.κ,cu s.t (.ok (.ret (.str (Txt.join U1 (is.map qn)) t'))),s.os,m+937,tk⟩:=h
 refine⟨λhp0 H=>?_⟩
 have H:aI (bo w) hb m0 hp0 (s.os++[(y+937,ai (x+937) 0),(c+937,li w.params q0 y none ee)]) s.nx:=H
 obtain⟨gd,l,sh⟩:=ci ic
 show wpOwn _ _ _ s.t _ _ _
 rw[sh,ec,eh]
 refine vg ?_
 have hdep:=eK (bF w A R d os) s.κ
 have hun:=gn (bF w A R d os) s.κ
 have e1:s.c.weight=wt s.c:=by rw[fJ]
 have e2:s.c.cUnits=un s.c:=by rw[gO]
 have e3:(bF w A R d os).A₀.depth=A.depth:=rfl
 have e4:(bF w A R d os).A₀.units=A.units:=rfl
 have hD:=lS hl' Z.d
 have hU:=lU hl' Z.u
 have hL2:L≤20:=by
  have:=hl'
  unfold pS at this
  rw[Bool.and_eq_true]at this
  exact Nat.le_of_ble_eq_true this.2
 have hhd:((aroundOf (bF w A R d os) true s.κ).under s.c).handled=none:=by
  show(aroundOf (bF w A R d os) true s.κ).handled=none
  rw[bv]
  show aB A.handled s.κ=none
  rw[Z.h,hh]
 have hsz:hp0.objs.size=a+938:=H.size.trans hN
 have Z2:Rm (((aroundOf (bF w A R d os) true s.κ).under s.c).in1.in1.in1) 1 none:=⟨hhd,(by show(aroundOf (bF w A R d os) true s.κ).depth+s.c.weight≤DL 1;simp only[DL]at *;lia),(by show(aroundOf (bF w A R d os) true s.κ).units+s.c.cUnits+1+1+1≤UL 1;have:=Z.u;simp only[UL]at *;lia)⟩
 have oy:hp0.get? (y+937)=some (ai (x+937) 0):=H.own (y+937,ai (x+937) 0) (FO _ (.head _))
 have oc:hp0.get? (c+937)=some (li w.params q0 y none ee):=H.own (c+937,li w.params q0 y none ee) (FO _ (.tail _ (.head _)))
 have ox:=H.at jx hx
 have oa:=H.at ja ha
 have nlim:=fz H.st
 have hca:c<a:=hac▸Nat.lt_succ_self c
 have mx:(x+937,aa (ps.map sv) ep)∈s.os:=List.mem_of_getElem? (by rw[←bO];exact hx)
 have nd:=H.nd
 rw[FM]at nd
 have dis:=(List.nodup_append.mp nd).2.2 _ (FP mx)
 have hxy:x≠y:=λe=>dis (y+937) (.head _) (congrArg (·+937) e)
 have hxc0:x≠c:=λe=>dis (c+937) (.tail _ (.head _)) (congrArg (·+937) e)
 have hxa:x≠a:=λe=>H.ne jx ja hx ha hj (congrArg (·+937) e)
 have hxs:x+937<a+938:=hsz▸Heap.lt_size ox
 have hxc:x<c:=by lia
 have I:vY w x y c q0 (ps.map sv) 0 hp0:=⟨H.st,⟨_,oy,jd _ _,rfl⟩,dT ox,none,ee,oc⟩
 have hgj:fV dl=true:=by kernel_rfl
 have hsc:(lh w.params (c+937) (co+937)).scope.isCoroutine=false:=by kernel_rfl
 have hq:(Code.compLoop dl 0 (.ref (y+937)) .none (lh w.params (c+937) (co+937))).quiet=true:=by rw[oP];kernel_rfl
 have hn:ps.length=is.length:=by have:=congrArg List.length hp;simpa using this
 have epp:passing pn ps.length 0=List.range ps.length:=by
  unfold passing
  rw[List.drop_zero]
  exact List.filter_eq_self.mpr λ_ _=>rfl
 have hpl:(passing pn ps.length 0).length=ps.length:=by rw[epp,List.length_range]
 have GA:GenAt pw w (((aroundOf (bF w A R d os) true s.κ).under s.c).in1.in1) (a+937) gi (c+937) (List.range (c+937)) [y+937] pn ps.length (FJ is) 0 ⟨hp0,g,d,s.tk,os⟩:=by
  refine⟨⟨_,nm1,nm2,oa,rfl,rfl,rfl⟩,nlim,_,hgg,λs'' hal=>?_⟩
  subst hgc
  refine⟨rfl,?_⟩
  have hal':∀b o,b<c+937→hp0.get? b=some o→s''.heap.get? b=some o:=λb o hb e=>hal b (List.mem_cons_of_mem _ (List.mem_range.mpr hb)) o e
  have I2:vY w x y c q0 (ps.map sv) 0 s''.heap:=⟨λb o e=>hal' b o (by
    rcases Nat.lt_or_ge b (c+937)with q|q
    ·exact q
    ·obtain⟨b',rfl⟩:∃b',b=b'+937:=⟨b-937,(Nat.sub_add_cancel (Nat.le_trans (Nat.le_add_left 937 c) q)).symm⟩
     exact absurd e (kC w b' o)) (H.st b o e),I.it.at λo e=>hal' _ o (by lia) e,I.ls.at λo e=>hal' _ o (by lia) e,none,ee,hal _ (List.mem_cons_self ..) _ oc⟩
  refine sE hgj Z2.h (hxy) hq I2 ?_
  rw[Nat.sub_zero]
  exact BW (q0:=q0) hgj hsc hq (λ{hb g d tk os o ee k S E}st hc=>pD Z2 st hc) (λ{hb g d tk os ee k q1 i E}st hi' hc=>wv Z2 st hi' hc) Z2.h (hxy) hyc hxc hp hi ps.length 0 s'' s'' (Nat.sub_zero _) (Nat.zero_le _) I2 (GenSince.refl _ _ _)
 have W:=WalksS.genexpQ (prog:=pw) (w:=w) (A:=((aroundOf (bF w A R d os) true s.κ).under s.c).in1.in1) hhd (a+937) gi (c+937) (List.range (c+937)) [y+937] pn ps.length (FJ is)
  (λe=>Nat.ne_of_gt hca (Nat.add_right_cancel e)) (λhm=>absurd (Nat.lt_of_add_lt_add_right (List.mem_range.mp hm)) (Nat.not_lt.mpr (Nat.le_of_lt hca))) (λb hb=>by cases FW.mp hb;exact List.mem_range.mpr (Nat.add_lt_add_right hyc 937))
  (by show(aroundOf (bF w A R d os) true s.κ).depth+s.c.weight<recursionLimit;have e4:recursionLimit=1000:=rfl;have:=Z.deep;simp only[DL]at hD;lia)
  (List.mem_range.mpr (by show 2<c+937;lia)) (by show 2≠c+937;lia) (λhm=>absurd (FW.mp hm) (by show¬((2:Nat)=y+937);lia))
 refine SC.joinGen (n:=(passing pn ps.length 0).length) W (λi s st=>st.1.typeIs) GA (λb hb=>?_) (List.mem_cons_self ..) (λi v hv=>?_) (λs' lv hm hit=>?_) (by rw[hpl,sizeLine_eq];lia)
 ·show b<hp0.objs.size
  rw[hsz]
  rcases FY.mp hb with rfl|hb
  ·exact Nat.lt_succ_self _
  ·rcases FY.mp hb with rfl|hb
   ·exact Nat.lt_succ_of_lt (Nat.add_lt_add_right hca 937)
   ·exact Nat.lt_trans (List.mem_range.mp hb) (Nat.lt_succ_of_lt (Nat.add_lt_add_right hca 937))
 ·obtain⟨i',_,t',rfl⟩:=hv
  exact⟨_,_,rfl⟩
 ·have el:lv.map (·.1)=is.map qn:=by
   obtain⟨h1,h2⟩:=hit
   rw[hpl]at h1
   have hlen:lv.length=ps.length:=by have:=h1;simpa [strValues]using this
   refine List.ext_getElem? λj=>?_
   rw[List.getElem?_map,List.getElem?_map]
   rcases Nat.lt_or_ge j ps.length with q|q
   ·have e1:lv[j]?=some lv[j]:=List.getElem?_eq_getElem (by lia)
    have e2:is[j]?=some is[j]:=List.getElem?_eq_getElem (by lia)
    obtain⟨i',hi',t',ht⟩:=h2 j (.str lv[j].1 lv[j].2) (by simp[strValues,e1])
    rw[epp,List.getElem?_range q]at hi'
    obtain rfl:=Option.some.inj hi'
    rw[e1,e2]
    have:is.getD j 0=is[j]:=by rw[List.getD_eq_getElem?_getD,e2];rfl
    rw[this]at ht
    injection ht with ht1 ht2
    show some lv[j].1=some (qn is[j])
    rw[ht1]
   ·rw[List.getElem?_eq_none (by lia),List.getElem?_eq_none (by lia)]
    rfl
  rw[el]
  refine⟨qJ hl,λt' k=>?_⟩
  have hmv:∀b o,b∉[((y+937,ai (x+937) 0):Addr×Obj),(c+937,li w.params q0 y none ee)].map (·.1)→hp0.get? b=some o→s'.heap.get? b=some o:=λb o hb e=>hm.heap b o (by simp only[FR,List.map_nil,FY,FU,or_false,not_or]at hb⊢;exact⟨hb.2,hb.1⟩) e
  have hza:a+937<s'.heap.objs.size:=Heap.lt_size (hmv _ _ (by simp only[FR,List.map_nil,FY,FU,or_false,not_or];exact⟨λe=>Nat.ne_of_gt (Nat.lt_trans hyc hca) (Nat.add_right_cancel e),λe=>Nat.ne_of_gt hca (Nat.add_right_cancel e)⟩) oa)
  have H':=aI.moved H hmv (by rw[hN];lia)
  obtain⟨m,hmm⟩:∃m,s'.heap.objs.size=m+937:=⟨s'.heap.objs.size-937,by lia⟩
  rw[hmm]at H'
  have hg':leftWithCleanup s'.gens=false:=leftWithCleanup_false_of_bare (hm.gens.bare (qj g.2))
  obtain⟨h'',g'',d'',k'',os''⟩:=s'
  obtain rfl:d''=d:=hm.drawn
  obtain rfl:os''=os:=hm.os
  exact(h t' m k ⟨g'',hg'⟩).run h'' H'
end
noncomputable abbrev nG(co:Addr):Obj:=⟨.none,none,.fields ⟨[.int 859 0,.int 20 0,.ref co]⟩,⟨[]⟩⟩
theorem GB.push_at(g:GB)(c:Code):(g.push c).1[g.1.size]?=some (.fresh c):=by
 show(g.1.push _)[g.1.size]?=_
 simp
end
section
theorem pp{α β γ:Type}(m:Sem α)(f:α→Sem β)(g:β→Sem γ):(m.bind f).bind g=m.bind λa=>(f a).bind g:=by
 rw[Sem.bind_eq_wrap,Sem.bind_eq_wrap,Sem.wrap_wrap,Sem.bind_eq_wrap]
 exact Sem.wrap_congr m _ _ (λa=>(Sem.bind_eq_wrap _ _).symm) (λe=>rfl)
theorem zL(x:Sem Value):spliced [(false,x)]=x.bind λv=>spliced [(false,.pure v)]:=rfl
theorem A3(pos:Pos)(id:String)(S:Str)(t:Tok)(x:Sem Value):callWith pos (.builtin id) [.str S t] [(false,x)] []=x.bind (λv=>callWith pos (.builtin id) [.str S t] [(false,.pure v)] []):=by
 show Sem.bind (Sem.bind (spliced [(false,x)]) _) _=_
 rw[zL,pp,pp]
 refine congrArg (Sem.bind x) (funext λv=>?_)
 show _=Sem.bind (Sem.bind (spliced [(false,Sem.pure v)]) _) _
 rw[pp]
 rfl
noncomputable def Cr:Pos→Value→List Value→List (Bool×Sem Value)→List (Option Str×Sem Value)→Sem Value:=PySem.W.Fast.tw8289420714989923916
theorem zM:callWith=Cr:=PySem.W.Fast.te8289420714989923916
noncomputable def c9{α β:Type}(ctx:Sem α→Sem β):Prop:=∃K H gd lv,∀x:Sem α,ctx x=x.wrap K H gd lv
theorem c9.bind{α β γ:Type}{ctx:Sem α→Sem β}(h:c9 ctx)(f:β→Sem γ):c9 λx=>PySem.W.R.bindR (ctx x) f:=by
 obtain⟨K,H,gd,lv,e⟩:=h
 refine⟨λa=>(K a).wrap f .raise id id,λe=>(H e).wrap f .raise id id,gd,lv,λx=>?_⟩
 show PySem.W.R.bindR (ctx x) f=_
 rw[←PySem.W.R.bindR_eq,e,Sem.bind_eq_wrap,Sem.wrap_wrap]
 rfl
theorem c9.onR{α β:Type}{ctx:Sem α→Sem β}(h:c9 ctx)(f:Value→Sem Unit):c9 λx=>PySem.W.R.onRaiseR (ctx x) f:=by
 obtain⟨K,H,gd,lv,e⟩:=h
 refine⟨λa=>(K a).wrap .pure (λe=>(f e).bind λ_=>.raise e) id id,λe=>(H e).wrap .pure (λe=>(f e).bind λ_=>.raise e) id id,gd,lv,λx=>?_⟩
 show PySem.W.R.onRaiseR (ctx x) f=_
 rw[←PySem.W.R.onRaiseR_eq,e,Sem.onRaise_eq_wrap,Sem.wrap_wrap]
 rfl
theorem c9.cw(pos:Pos)(id:String)(S:Str)(t:Tok):c9 λx=>Cr pos (.builtin id) [.str S t] [(false,x)] []:=
 ⟨λv=>callWith pos (.builtin id) [.str S t] [(false,.pure v)] [],.raise,λg=>g,λl=>l,λx=>by
  show Cr _ _ _ _ _=_
  rw[←zM,A3,Sem.bind_eq_wrap]
  rfl⟩
theorem xR{M:Model}{Γ:PySem.Ctx}{α β:Type}{K:α→Sem β}{H:Value→Sem β}{gd lv}{Q':β→Pos→Shared→Prop}{E':Value→Pos→Shared→Prop}(m:Sem α):
  ∀{Q:α→Pos→Shared→Prop}{E:Value→Pos→Shared→Prop}{p:Pos}{s:Shared},Sem.wp M Γ m Q E p s→
   (∀a p' s',Q a p' s'→Sem.wp M Γ (K a) Q' E' p' s')→(∀x p' s',E x p' s'→Sem.wp M Γ (H x) Q' E' p' s')→Sem.wp M Γ (m.wrap K H gd lv) Q' E' p s:=by
 induction m with
 |pure a=>intro Q E p s h hQ _;exact hQ a p s h
 |raise x=>intro Q E p s h _ hE;exact hE x p s h
 |unsupported what=>intro Q E p s h;exact h.elim
 |finish x=>intro Q E p s h;exact h.elim
 |register a k=>intro Q E p s h;exact h.elim
 |yield v g l k=>intro Q E p s h;exact h.elim
 |fork c k=>intro Q E p s h;exact h.elim
 |await a f d l k=>intro Q E p s h;exact h.elim
 |rule tag k ih=>intro Q E p s h hQ hE;exact ih () h hQ hE
 |«at» p' k ih=>intro Q E p s h hQ hE;exact ih () h hQ hE
 |load a part k ih=>intro Q E p s h hQ hE;obtain⟨o,ho,h⟩:=h;exact⟨o,ho,ih o h hQ hE⟩
 |update a part f k ih=>intro Q E p s h hQ hE;obtain⟨ha,h⟩:=h;exact⟨ha,ih () h hQ hE⟩
 |alloc o k ih=>intro Q E p s h hQ hE;exact ih _ h hQ hE
 |loadIfAlive a k ih=>intro Q E p s h hQ hE;exact ih _ h hQ hE
 |point l k ih=>intro Q E p s h hQ hE;exact ih () h hQ hE
 |fresh k ih=>intro Q E p s h hQ hE;exact ih _ h hQ hE
 |ask k ih=>intro Q E p s h hQ hE;exact ih _ h hQ hE
 |choose src n k ih=>intro Q E p s h hQ hE;obtain⟨hn,h⟩:=h;exact⟨hn,ih _ h hQ hE⟩
 |os q l k ih=>intro Q E p s h hQ hE;exact ih _ h hQ hE
 |call c h g l k ih=>intro Q E p s hw hQ hE;obtain⟨r,s₁,hret,hw⟩:=hw;exact⟨r,s₁,hret,ih r hw hQ hE⟩
 |handled own k ih=>intro Q E p s h hQ hE;exact ih _ h hQ hE
 |newGen c k ih=>intro Q E p s h hQ hE;exact ih _ h hQ hE
 |genState g k ih=>intro Q E p s h hQ hE;obtain⟨st,hg,h⟩:=h;exact⟨st,hg,ih _ h hQ hE⟩
 |resume g r l k ih=>intro Q E p s h hQ hE;obtain⟨res,s₁,hwk,h⟩:=h;exact⟨res,s₁,hwk,ih res h hQ hE⟩
 |stack k ih=>intro Q E p s h hQ hE;exact ih _ h hQ hE
 |thread k ih=>intro Q E p s h hQ hE;exact ih _ h hQ hE
theorem xe{M:Model}{A:Around}{c:Code}{α β:Type}{ctx:Sem α→Sem β}(W:c9 ctx){m:Sem Unit}{t:Sem α}{Q:β→Shared→Prop}{E:Value→Shared→Prop}{s:Shared}
  (h:wpAny M (A.under c) m (λ_ s'=>wpOwn M A c (ctx t) Q E s') (λ_ _=>False) s):wpOwn M A c (ctx (m.bind λ_=>t)) Q E s:=by
 obtain⟨K,H,gd,lv,e⟩:=W
 intro Γ p hc hΓ
 rw[e,Sem.bind_eq_wrap,Sem.wrap_wrap]
 refine xR m (h Γ p (hc▸hΓ.in)) (λa p' s' h'=>?_) λ_ _ _ h'=>h'.elim
 have z:=h' Γ p' hc hΓ
 rw[e]at z
 exact z
section
variable{w:World}{hd:Option Value}{A:Around}{R:Result→Shared→Prop}{d:Drawn}{os:OsState}{hb:Heap}{m0:cM}{g:Array GenState}{fr:ah}{s:St}{L:Nat}
theorem ke(F:fP w hd A R d os hb m0)(Z:Rm A L hd)(n pl:Nat){ctx:Sem Value→Sem PySem.Fin}(W:c9 ctx)(tl:Sem Value)(ok:((go (ag w hd) n pl s).Y&&Nat.ble (n7 (go (ag w hd) n pl s).S.K+wt (go (ag w hd) n pl s).S.C) 40)=true)(ab:(go (ag w hd) n pl s).A=(go (ag w hd) n pl s).B)
  (hs:(go (ag w hd) n pl s).S.T=ctx (PySem.W.R.bindR dy λ_=>tl))
  (h:Gd (aG w A R d os hb m0 g fr) ((go (ag w hd) n pl s).S.setT (ctx tl))):Gd (aG w A R d os hb m0 g fr) s:=by
 rw[Bool.and_eq_true]at ok
 refine eI (F g fr) n pl ok.1 ab ?_
 have okd:=ok.2
 revert hs h okd
 generalize (go (ag w hd) n pl s).S=s'
 intro hs h okd
 refine⟨λhp H=>?_⟩
 obtain⟨c,κ,t,oo,nx,tk⟩:=s'
 have hs:t=_:=hs
 subst hs
 have z:=h.run hp H
 rw[←PySem.W.R.bindR_eq,←gS]
 show wpOwn _ _ _ (ctx _) _ _ _
 refine xe W (wpAny_enterFrame (fz H.st) ?_ z)
 have:=eK (bF w A R d os) κ
 show(aroundOf (bF w A R d os) true κ).depth+c.weight<recursionLimit
 have e:c.weight=wt c:=by rw[fJ]
 have e2:(bF w A R d os).A₀.depth=A.depth:=rfl
 have e3:n7 κ+wt c≤40:=Nat.le_of_ble_eq_true okd
 have e4:recursionLimit=1000:=rfl
 have e5:=Z.deep
 lia
end
noncomputable def A5:Expr→Pos
 |.GeneratorExp _ _ _ p=>p
 |.Call _ _ _ p=>p
 |e=>e.pos
noncomputable abbrev qI(P:Params)(lo:Nat):Env:=bH 878 (xa P) lo
noncomputable abbrev tY(env:Env)(it:Value):Sem Value:=
 PySem.W.R.bindR (PySem.W.Fast.tw14069538253670106520 (bZ dl) env) λcl=>PySem.W.R.bindR (PySem.W.Fast.tw9492743126541576920 env (A5 dl) (env.qual++(Str.ofString "<genexpr>")) (bZ dl)) λcode=>
 PySem.W.R.bindR (PySem.W.Fast.tw6600643334278800223 env.globals env.builtins) λbi=>PySem.W.R.bindR (PySem.W.Fast.tw11113344188204177931 (bZ dl) env.globals cl [(Str.ofString ".0",it)] (env.qual++(Str.ofString "<genexpr>.")) none code none bi) λcenv=>
 PySem.W.Fast.tw2426001476595277715 (.compStart dl 0 it .none cenv) (Str.ofString "<genexpr>") (env.qual++(Str.ofString "<genexpr>"))
noncomputable abbrev Bh(env:Env)(t1:Tok)(x:Sem Value):Sem PySem.Fin:=PySem.W.R.bindR (PySem.W.R.onRaiseR (j4 [] env (PySem.W.R.bindR (Cr (A5 (nt (br (aE (aj 32)) 0))) (.builtin "str.join") [.str U1 t1] [(false,x)] []) λv=>pure (.ret v))) (PySem.W.Fast.tw9442747609961115081 env)) λf=>match f with
 |.ret v=>PySem.W.Fast.tw6905046200447255374 v
 |_=>PySem.W.Fast.tw6905046200447255374 .none
theorem rJ(env:Env)(t1:Tok):c9 (Bh env t1):=(((c9.cw _ _ _ _).bind _).bind _|>.onR _).bind _
end
section
section
variable{w:World}{x ep cc:Nat}{is:List Nat}{ps:List SV}
theorem wG(hp:ps.map (·.1)=is.map nm)(hi:∀i∈is,i<6)(hl6:is.length≤18):Spec w 3 none (.call (.ref 878) ⟨[.ref (x+937)],[]⟩) [(873,oH w.params),(x+937,aa (ps.map sv) ep)]
  (X:=Nat×Nat) (λ_ _=>True) (λz=>.ok (.ret (.str (Txt.join U1 (is.map qn)) z.2))) (λz=>[(873,nG (z.1+937)),(x+937,aa (ps.map sv) ep)]):=by
 refine ak λA R d os hb m0 g tk b Z F E=>?_
 refine ex F Z 7 798720 ?_
 intro sS
 refine ke F Z 18 4345045123 (rJ (qI w.params b) (tk+1)) (tY (qI w.params b) (.ref (b+1+937))) (by kernel_rfl) (by kernel_rfl) (by kernel_rfl) ?_
 refine kg F 20 0x8200001041040 (.compStart dl 0 (.ref (b+1+937)) .none (lh w.params (b+5+937) (b+4+937))) (by kernel_rfl) (by kernel_rfl) (by kernel_rfl) ?_
 refine da F 4 0 ?_
 intro sS
 refine aw [0,1,2,6,8] [3,7] ([(b+1+937,ai (x+937) 0),(b+5+937,li w.params (tk+7) (b+1) none 1)]) [] ([(b+1+937,ai (x+937) 0),(b+5+937,li w.params (tk+7) (b+1) none 1)]) (FL _) ?_
 intro sS
 refine kj (ep:=ep) (y:=b+1) (c:=b+5) (co:=b+4) (q0:=tk+7) (a:=b+6) F Z 0 0 1 4 g.1.size _ (.str E2 (tk+8)) (.str E3 (tk+9)) (tk+1) rfl (GB.push_at g _) hp hi hl6 (by lia) rfl (by decide) (by kernel_rfl) (by kernel_rfl) (by kernel_rfl) (by kernel_rfl) (by kernel_rfl) (by kernel_rfl) (by kernel_rfl) λt' m1 kk1 g1=>?_
 exact fs F E 1 0 [0,1] (λ_ _ _=>(b+4,t')) (by kernel_rfl) (by kernel_rfl) (by kernel_rfl) (by kernel_rfl) trivial
theorem qK(hp:ps.map (·.1)=is.map nm)(hi:∀i∈is,i<6)(hl6:is.length≤18):Spec w 3 none (.call (.ref 878) ⟨[.ref (x+937)],[]⟩) [(873,nG (cc+937)),(x+937,aa (ps.map sv) ep)]
  (X:=Nat×Nat) (λ_ _=>True) (λz=>.ok (.ret (.str (Txt.join U1 (is.map qn)) z.2))) (λz=>[(873,nG (z.1+937)),(x+937,aa (ps.map sv) ep)]):=by
 refine ak λA R d os hb m0 g tk b Z F E=>?_
 refine ex F Z 7 798720 ?_
 intro sS
 refine ke F Z 18 4345045123 (rJ (qI w.params b) (tk+1)) (tY (qI w.params b) (.ref (b+1+937))) (by kernel_rfl) (by kernel_rfl) (by kernel_rfl) ?_
 refine kg F 9 5452595264 (.compStart dl 0 (.ref (b+1+937)) .none (lh w.params (b+2+937) (cc+937))) (by kernel_rfl) (by kernel_rfl) (by kernel_rfl) ?_
 refine da F 4 0 ?_
 intro sS
 refine aw [0,1,2,5] [3,4] ([(b+1+937,ai (x+937) 0),(b+2+937,li w.params (tk+2) (b+1) none 1)]) [] ([(b+1+937,ai (x+937) 0),(b+2+937,li w.params (tk+2) (b+1) none 1)]) (FL _) ?_
 intro sS
 refine kj (ep:=ep) (y:=b+1) (c:=b+2) (co:=cc) (q0:=tk+2) (a:=b+3) F Z 0 0 1 3 g.1.size _ (.str E2 (tk+3)) (.str E3 (tk+4)) (tk+1) rfl (GB.push_at g _) hp hi hl6 (by lia) rfl (by decide) (by kernel_rfl) (by kernel_rfl) (by kernel_rfl) (by kernel_rfl) (by kernel_rfl) (by kernel_rfl) (by kernel_rfl) λt' m1 kk1 g1=>?_
 exact fs F E 1 0 [0,1] (λ_ _ _=>(cc,t')) (by kernel_rfl) (by kernel_rfl) (by kernel_rfl) (by kernel_rfl) trivial
end
end
section
noncomputable abbrev zj(P:Params):Option (Tok×Value)→List DictEntry
 |none=>[]
 |some (q,z)=>[de P (u [110,97,109,101]) q z]
noncomputable abbrev ui(P:Params)(q1 q2 x z:Nat)(o:Option (Tok×Value))(ee:Nat):Obj:=e7 ([de P AS q1 (.ref (x+937)),de P Ch q2 (.ref (z+937))]++zj P o) ee
noncomputable abbrev uj(P:Params)(y lo:Nat):Code:=cF (br (aE (aj 39)) 1) (.ref (y+937)) (bH 905 (BJ P) lo)
structure B8 where
 o:Option (Tok×Value)
 ee:Nat
 ls:List SV
 ez:Nat
 j:Nat
section
variable{w:World}{x y z lo q1 q2 ep:Nat}{is:List Nat}{ps:List SV}
theorem r8(hp:ps.map (·.1)=is.map nm)(hi:∀i∈is,i<6):∀(rem:List Nat)(j:Nat)(ls:List SV)(o:Option (Tok×Value))(ee ez:Nat),is.drop j=rem→ls.length+rem.length≤100→
  Spec w 1 none (uj w.params y lo) [(y+937,ai (x+937) j),(lo+937,ui w.params q1 q2 x z o ee),(x+937,aa (ps.map sv) ep),(z+937,aa (ls.map sv) ez)]
   (X:=B8) (λ_ r=>r.ls.map (·.1)=ls.map (·.1)++rem.map qn) (λ_=>.ok .next) (λr=>[(y+937,av r.j),(lo+937,ui w.params q1 q2 x z r.o r.ee),(x+937,aa (ps.map sv) ep),(z+937,aa (r.ls.map sv) r.ez)]):=by
 have hlen:ps.length=is.length:=by have:=congrArg List.length hp;simpa using this
 obtain⟨v,b1,b2,b3,rfl⟩:=al w
 intro rem
 induction rem with
 |nil =>
  intro j ls o ee ez hd hl
  have hx:(ps.map sv)[j]?=none:=by
   rw[List.getElem?_eq_none]
   rw[FQ,hlen]
   exact List.drop_eq_nil_iff.mp hd
  refine ak λA R d os hb m0 g tk b Z F E=>?_
  refine cx (L':=0) (hd':=none) F Z 2 1 (a7 (y:=y) (x:=x) (ep:=ep) (i:=j) hx) [0,2] λnn m1 kk1 g1 _=>?_
  intro sS
  exact fx F E 2 6 [0,1,2,3] ⟨o,ee,ls,ez,j⟩ _ [] [] (FL _) (FK _).symm (FK _).symm
 |cons i rem ih =>
  intro j ls o ee ez hd hl
  obtain⟨hij,hd'⟩:=aN hd
  have hi6:i<6:=hi i (List.mem_of_getElem? hij)
  obtain⟨p,hpj,hpi⟩:∃p,ps[j]?=some p∧p.1=nm i:=by
   have:(ps.map (·.1))[j]?=some (nm i):=by rw[hp,List.getElem?_map,hij];rfl
   rw[List.getElem?_map]at this
   obtain⟨p,e1,e2⟩:=Option.map_eq_some_iff.mp this
   exact⟨p,e1,e2⟩
  obtain⟨S,k⟩:=p
  obtain rfl:S=nm i:=hpi
  have hx:(ps.map sv)[j]?=some (sv (nm i,k)):=by rw[List.getElem?_map,hpj];rfl
  have hls:(ls.map sv).length≤sizeLine:=by rw[FQ,sizeLine_eq];rw[FT]at hl;lia
  have J:∀(t:Tok)(o:Option (Tok×Value))(ee:Nat),Spec (ay v b1 b2 b3) 1 none (uj (ay v b1 b2 b3).params y lo) [(y+937,ai (x+937) (j+1)),(lo+937,ui (ay v b1 b2 b3).params q1 q2 x z o ee),(x+937,aa (ps.map sv) ep),(z+937,aa (ls.map sv++[.str (qn i) t]) (ez+1))]
   (X:=B8) (λ_ r=>r.ls.map (·.1)=ls.map (·.1)++(i::rem).map qn) (λ_=>.ok .next) (λr=>[(y+937,av r.j),(lo+937,ui (ay v b1 b2 b3).params q1 q2 x z r.o r.ee),(x+937,aa (ps.map sv) ep),(z+937,aa (r.ls.map sv) r.ez)]):=λt o ee=>by
   have z:=ih (j+1) (ls++[(qn i,t)]) o ee (ez+1) hd' (by rw[FZ];simp only[FT,List.length_nil]at hl⊢;lia)
   rw[FM,FM,FV]at z
   exact z
  clear ih
  refine ak λA R d os hb m0 g tk b Z F E=>?_
  cases b2
  ·skip
   rcases o with _|⟨q3,z3⟩
   ·match i,hi6,hx,J with
    |0,_,hx,J =>
     refine cx (L':=0) (hd':=none) F Z 2 1 (am (y:=y) (x:=x) (ep:=ep) (i:=j) hx) [0,2] λ_ m1 kk1 g1 _=>?_
     intro sS
     refine cx (L':=0) (hd':=none) F Z 27 0xbf084104102082 (af (x:=z) (ep:=ez) (v:=.str (qn 0) (k+0)) hls) [3] λ_ m2 kk2 g2 _=>?_
     intro sS
     exact dc F E Z 1 0 (J k (some (kk1,.str (nm 0) k)) (ee+1)) [0,1,2,3] (λ_ _ _ h=>h)
    |1,_,hx,J =>
     refine cx (L':=0) (hd':=none) F Z 2 1 (am (y:=y) (x:=x) (ep:=ep) (i:=j) hx) [0,2] λ_ m1 kk1 g1 _=>?_
     intro sS
     refine cx (L':=0) (hd':=none) F Z 204 0x1861c71c91451451451861861ff1c71c5145145146186187fc71c71451451451861861ff1c71c514514514517f14517f0bf084104102082 (af (x:=z) (ep:=ez) (v:=.str (qn 1) (kk1+16)) hls) [3] λ_ m2 kk2 g2 _=>?_
     intro sS
     exact dc F E Z 1 0 (J (kk1+16) (some (kk1,.str (nm 1) k)) (ee+1)) [0,1,2,3] (λ_ _ _ h=>h)
    |2,_,hx,J =>
     refine cx (L':=0) (hd':=none) F Z 2 1 (am (y:=y) (x:=x) (ep:=ep) (i:=j) hx) [0,2] λ_ m1 kk1 g1 _=>?_
     intro sS
     refine cx (L':=0) (hd':=none) F Z 239 0x1861c71c91451451451861861ff1c71c51451451461861bf1c71c5145145146186187fc71c71451451451861861ff1c71c514514514517f14517f0bf084104102082 (af (x:=z) (ep:=ez) (v:=.str (qn 2) (kk1+20)) hls) [3] λ_ m2 kk2 g2 _=>?_
     intro sS
     exact dc F E Z 1 0 (J (kk1+20) (some (kk1,.str (nm 2) k)) (ee+1)) [0,1,2,3] (λ_ _ _ h=>h)
    |3,_,hx,J =>
     refine cx (L':=0) (hd':=none) F Z 2 1 (am (y:=y) (x:=x) (ep:=ep) (i:=j) hx) [0,2] λ_ m1 kk1 g1 _=>?_
     intro sS
     refine cx (L':=0) (hd':=none) F Z 168 0x61871c7245145145146186187fc71c71451451451861861ff1c71c514514514517f14517f0bf084104102082 (af (x:=z) (ep:=ez) (v:=.str (qn 3) (kk1+13)) hls) [3] λ_ m2 kk2 g2 _=>?_
     intro sS
     exact dc F E Z 1 0 (J (kk1+13) (some (kk1,.str (nm 3) k)) (ee+1)) [0,1,2,3] (λ_ _ _ h=>h)
    |4,_,hx,J =>
     refine cx (L':=0) (hd':=none) F Z 2 1 (am (y:=y) (x:=x) (ep:=ep) (i:=j) hx) [0,2] λ_ m1 kk1 g1 _=>?_
     intro sS
     refine cx (L':=0) (hd':=none) F Z 168 0x61871c7245145145146186187fc71c71451451451861861ff1c71c514514514517f14517f0bf084104102082 (af (x:=z) (ep:=ez) (v:=.str (qn 4) (kk1+13)) hls) [3] λ_ m2 kk2 g2 _=>?_
     intro sS
     exact dc F E Z 1 0 (J (kk1+13) (some (kk1,.str (nm 4) k)) (ee+1)) [0,1,2,3] (λ_ _ _ h=>h)
    |5,_,hx,J =>
     refine cx (L':=0) (hd':=none) F Z 2 1 (am (y:=y) (x:=x) (ep:=ep) (i:=j) hx) [0,2] λ_ m1 kk1 g1 _=>?_
     intro sS
     refine cx (L':=0) (hd':=none) F Z 168 0x61871c7245145145146186187fc71c71451451451861861ff1c71c514514514517f14517f0bf084104102082 (af (x:=z) (ep:=ez) (v:=.str (qn 5) (kk1+13)) hls) [3] λ_ m2 kk2 g2 _=>?_
     intro sS
     exact dc F E Z 1 0 (J (kk1+13) (some (kk1,.str (nm 5) k)) (ee+1)) [0,1,2,3] (λ_ _ _ h=>h)
   ·match i,hi6,hx,J with
    |0,_,hx,J =>
     refine cx (L':=0) (hd':=none) F Z 2 1 (am (y:=y) (x:=x) (ep:=ep) (i:=j) hx) [0,2] λ_ m1 kk1 g1 _=>?_
     intro sS
     refine cx (L':=0) (hd':=none) F Z 27 0xbf084104102082 (af (x:=z) (ep:=ez) (v:=.str (qn 0) (k+0)) hls) [3] λ_ m2 kk2 g2 _=>?_
     intro sS
     exact dc F E Z 1 0 (J k (some (q3,.str (nm 0) k)) ee) [0,1,2,3] (λ_ _ _ h=>h)
    |1,_,hx,J =>
     refine cx (L':=0) (hd':=none) F Z 2 1 (am (y:=y) (x:=x) (ep:=ep) (i:=j) hx) [0,2] λ_ m1 kk1 g1 _=>?_
     intro sS
     refine cx (L':=0) (hd':=none) F Z 204 0x1861c71c91451451451861861ff1c71c5145145146186187fc71c71451451451861861ff1c71c514514514517f14517f0bf084104102082 (af (x:=z) (ep:=ez) (v:=.str (qn 1) (kk1+16)) hls) [3] λ_ m2 kk2 g2 _=>?_
     intro sS
     exact dc F E Z 1 0 (J (kk1+16) (some (q3,.str (nm 1) k)) ee) [0,1,2,3] (λ_ _ _ h=>h)
    |2,_,hx,J =>
     refine cx (L':=0) (hd':=none) F Z 2 1 (am (y:=y) (x:=x) (ep:=ep) (i:=j) hx) [0,2] λ_ m1 kk1 g1 _=>?_
     intro sS
     refine cx (L':=0) (hd':=none) F Z 239 0x1861c71c91451451451861861ff1c71c51451451461861bf1c71c5145145146186187fc71c71451451451861861ff1c71c514514514517f14517f0bf084104102082 (af (x:=z) (ep:=ez) (v:=.str (qn 2) (kk1+20)) hls) [3] λ_ m2 kk2 g2 _=>?_
     intro sS
     exact dc F E Z 1 0 (J (kk1+20) (some (q3,.str (nm 2) k)) ee) [0,1,2,3] (λ_ _ _ h=>h)
    |3,_,hx,J =>
     refine cx (L':=0) (hd':=none) F Z 2 1 (am (y:=y) (x:=x) (ep:=ep) (i:=j) hx) [0,2] λ_ m1 kk1 g1 _=>?_
     intro sS
     refine cx (L':=0) (hd':=none) F Z 168 0x61871c7245145145146186187fc71c71451451451861861ff1c71c514514514517f14517f0bf084104102082 (af (x:=z) (ep:=ez) (v:=.str (qn 3) (kk1+13)) hls) [3] λ_ m2 kk2 g2 _=>?_
     intro sS
     exact dc F E Z 1 0 (J (kk1+13) (some (q3,.str (nm 3) k)) ee) [0,1,2,3] (λ_ _ _ h=>h)
    |4,_,hx,J =>
     refine cx (L':=0) (hd':=none) F Z 2 1 (am (y:=y) (x:=x) (ep:=ep) (i:=j) hx) [0,2] λ_ m1 kk1 g1 _=>?_
     intro sS
     refine cx (L':=0) (hd':=none) F Z 168 0x61871c7245145145146186187fc71c71451451451861861ff1c71c514514514517f14517f0bf084104102082 (af (x:=z) (ep:=ez) (v:=.str (qn 4) (kk1+13)) hls) [3] λ_ m2 kk2 g2 _=>?_
     intro sS
     exact dc F E Z 1 0 (J (kk1+13) (some (q3,.str (nm 4) k)) ee) [0,1,2,3] (λ_ _ _ h=>h)
    |5,_,hx,J =>
     refine cx (L':=0) (hd':=none) F Z 2 1 (am (y:=y) (x:=x) (ep:=ep) (i:=j) hx) [0,2] λ_ m1 kk1 g1 _=>?_
     intro sS
     refine cx (L':=0) (hd':=none) F Z 168 0x61871c7245145145146186187fc71c71451451451861861ff1c71c514514514517f14517f0bf084104102082 (af (x:=z) (ep:=ez) (v:=.str (qn 5) (kk1+13)) hls) [3] λ_ m2 kk2 g2 _=>?_
     intro sS
     exact dc F E Z 1 0 (J (kk1+13) (some (q3,.str (nm 5) k)) ee) [0,1,2,3] (λ_ _ _ h=>h)
  ·skip
   rcases o with _|⟨q3,z3⟩
   ·match i,hi6,hx,J with
    |0,_,hx,J =>
     refine cx (L':=0) (hd':=none) F Z 2 1 (am (y:=y) (x:=x) (ep:=ep) (i:=j) hx) [0,2] λ_ m1 kk1 g1 _=>?_
     intro sS
     refine cx (L':=0) (hd':=none) F Z 27 0xbf084104102082 (af (x:=z) (ep:=ez) (v:=.str (qn 0) (k+0)) hls) [3] λ_ m2 kk2 g2 _=>?_
     intro sS
     exact dc F E Z 1 0 (J k (some (kk1,.str (nm 0) k)) (ee+1)) [0,1,2,3] (λ_ _ _ h=>h)
    |1,_,hx,J =>
     refine cx (L':=0) (hd':=none) F Z 2 1 (am (y:=y) (x:=x) (ep:=ep) (i:=j) hx) [0,2] λ_ m1 kk1 g1 _=>?_
     intro sS
     refine cx (L':=0) (hd':=none) F Z 194 0x61871c7245145145146186187fc71c71451451451861861ff1c71c5145145146186187fc71c714514514517f0bf084104102082 (af (x:=z) (ep:=ez) (v:=.str (qn 1) (kk1+16)) hls) [3] λ_ m2 kk2 g2 _=>?_
     intro sS
     exact dc F E Z 1 0 (J (kk1+16) (some (kk1,.str (nm 1) k)) (ee+1)) [0,1,2,3] (λ_ _ _ h=>h)
    |2,_,hx,J =>
     refine cx (L':=0) (hd':=none) F Z 2 1 (am (y:=y) (x:=x) (ep:=ep) (i:=j) hx) [0,2] λ_ m1 kk1 g1 _=>?_
     intro sS
     refine cx (L':=0) (hd':=none) F Z 229 0x61871c7245145145146186187fc71c7145145145186186fc71c71451451451861861ff1c71c5145145146186187fc71c714514514517f0bf084104102082 (af (x:=z) (ep:=ez) (v:=.str (qn 2) (kk1+20)) hls) [3] λ_ m2 kk2 g2 _=>?_
     intro sS
     exact dc F E Z 1 0 (J (kk1+20) (some (kk1,.str (nm 2) k)) (ee+1)) [0,1,2,3] (λ_ _ _ h=>h)
    |3,_,hx,J =>
     refine cx (L':=0) (hd':=none) F Z 2 1 (am (y:=y) (x:=x) (ep:=ep) (i:=j) hx) [0,2] λ_ m1 kk1 g1 _=>?_
     intro sS
     refine cx (L':=0) (hd':=none) F Z 158 0x1861c71c91451451451861861ff1c71c5145145146186187fc71c714514514517f0bf084104102082 (af (x:=z) (ep:=ez) (v:=.str (qn 3) (kk1+13)) hls) [3] λ_ m2 kk2 g2 _=>?_
     intro sS
     exact dc F E Z 1 0 (J (kk1+13) (some (kk1,.str (nm 3) k)) (ee+1)) [0,1,2,3] (λ_ _ _ h=>h)
    |4,_,hx,J =>
     refine cx (L':=0) (hd':=none) F Z 2 1 (am (y:=y) (x:=x) (ep:=ep) (i:=j) hx) [0,2] λ_ m1 kk1 g1 _=>?_
     intro sS
     refine cx (L':=0) (hd':=none) F Z 158 0x1861c71c91451451451861861ff1c71c5145145146186187fc71c714514514517f0bf084104102082 (af (x:=z) (ep:=ez) (v:=.str (qn 4) (kk1+13)) hls) [3] λ_ m2 kk2 g2 _=>?_
     intro sS
     exact dc F E Z 1 0 (J (kk1+13) (some (kk1,.str (nm 4) k)) (ee+1)) [0,1,2,3] (λ_ _ _ h=>h)
    |5,_,hx,J =>
     refine cx (L':=0) (hd':=none) F Z 2 1 (am (y:=y) (x:=x) (ep:=ep) (i:=j) hx) [0,2] λ_ m1 kk1 g1 _=>?_
     intro sS
     refine cx (L':=0) (hd':=none) F Z 158 0x1861c71c91451451451861861ff1c71c5145145146186187fc71c714514514517f0bf084104102082 (af (x:=z) (ep:=ez) (v:=.str (qn 5) (kk1+13)) hls) [3] λ_ m2 kk2 g2 _=>?_
     intro sS
     exact dc F E Z 1 0 (J (kk1+13) (some (kk1,.str (nm 5) k)) (ee+1)) [0,1,2,3] (λ_ _ _ h=>h)
   ·match i,hi6,hx,J with
    |0,_,hx,J =>
     refine cx (L':=0) (hd':=none) F Z 2 1 (am (y:=y) (x:=x) (ep:=ep) (i:=j) hx) [0,2] λ_ m1 kk1 g1 _=>?_
     intro sS
     refine cx (L':=0) (hd':=none) F Z 27 0xbf084104102082 (af (x:=z) (ep:=ez) (v:=.str (qn 0) (k+0)) hls) [3] λ_ m2 kk2 g2 _=>?_
     intro sS
     exact dc F E Z 1 0 (J k (some (q3,.str (nm 0) k)) ee) [0,1,2,3] (λ_ _ _ h=>h)
    |1,_,hx,J =>
     refine cx (L':=0) (hd':=none) F Z 2 1 (am (y:=y) (x:=x) (ep:=ep) (i:=j) hx) [0,2] λ_ m1 kk1 g1 _=>?_
     intro sS
     refine cx (L':=0) (hd':=none) F Z 194 0x61871c7245145145146186187fc71c71451451451861861ff1c71c5145145146186187fc71c714514514517f0bf084104102082 (af (x:=z) (ep:=ez) (v:=.str (qn 1) (kk1+16)) hls) [3] λ_ m2 kk2 g2 _=>?_
     intro sS
     exact dc F E Z 1 0 (J (kk1+16) (some (q3,.str (nm 1) k)) ee) [0,1,2,3] (λ_ _ _ h=>h)
    |2,_,hx,J =>
     refine cx (L':=0) (hd':=none) F Z 2 1 (am (y:=y) (x:=x) (ep:=ep) (i:=j) hx) [0,2] λ_ m1 kk1 g1 _=>?_
     intro sS
     refine cx (L':=0) (hd':=none) F Z 229 0x61871c7245145145146186187fc71c7145145145186186fc71c71451451451861861ff1c71c5145145146186187fc71c714514514517f0bf084104102082 (af (x:=z) (ep:=ez) (v:=.str (qn 2) (kk1+20)) hls) [3] λ_ m2 kk2 g2 _=>?_
     intro sS
     exact dc F E Z 1 0 (J (kk1+20) (some (q3,.str (nm 2) k)) ee) [0,1,2,3] (λ_ _ _ h=>h)
    |3,_,hx,J =>
     refine cx (L':=0) (hd':=none) F Z 2 1 (am (y:=y) (x:=x) (ep:=ep) (i:=j) hx) [0,2] λ_ m1 kk1 g1 _=>?_
     intro sS
     refine cx (L':=0) (hd':=none) F Z 158 0x1861c71c91451451451861861ff1c71c5145145146186187fc71c714514514517f0bf084104102082 (af (x:=z) (ep:=ez) (v:=.str (qn 3) (kk1+13)) hls) [3] λ_ m2 kk2 g2 _=>?_
     intro sS
     exact dc F E Z 1 0 (J (kk1+13) (some (q3,.str (nm 3) k)) ee) [0,1,2,3] (λ_ _ _ h=>h)
    |4,_,hx,J =>
     refine cx (L':=0) (hd':=none) F Z 2 1 (am (y:=y) (x:=x) (ep:=ep) (i:=j) hx) [0,2] λ_ m1 kk1 g1 _=>?_
     intro sS
     refine cx (L':=0) (hd':=none) F Z 158 0x1861c71c91451451451861861ff1c71c5145145146186187fc71c714514514517f0bf084104102082 (af (x:=z) (ep:=ez) (v:=.str (qn 4) (kk1+13)) hls) [3] λ_ m2 kk2 g2 _=>?_
     intro sS
     exact dc F E Z 1 0 (J (kk1+13) (some (q3,.str (nm 4) k)) ee) [0,1,2,3] (λ_ _ _ h=>h)
    |5,_,hx,J =>
     refine cx (L':=0) (hd':=none) F Z 2 1 (am (y:=y) (x:=x) (ep:=ep) (i:=j) hx) [0,2] λ_ m1 kk1 g1 _=>?_
     intro sS
     refine cx (L':=0) (hd':=none) F Z 158 0x1861c71c91451451451861861ff1c71c5145145146186187fc71c714514514517f0bf084104102082 (af (x:=z) (ep:=ez) (v:=.str (qn 5) (kk1+13)) hls) [3] λ_ m2 kk2 g2 _=>?_
     intro sS
     exact dc F E Z 1 0 (J (kk1+13) (some (q3,.str (nm 5) k)) ee) [0,1,2,3] (λ_ _ _ h=>h)
end
end
theorem rY{w:World}{L:Nat}{hd:Option Value}{z ez:Nat}{t:Tok}{ls:List SV}(hok:JoinOk U1 (ls.map (·.1))=true):
  Spec w L hd (.call (.builtin "str.join") ⟨[.str U1 t,.ref (z+937)],[]⟩) [(z+937,aa (ls.map sv) ez)] (X:=Tok) (λ_ _=>True) (λk=>.ok (.ret (.str (Txt.join U1 (ls.map (·.1))) k))) (λ_=>[(z+937,aa (ls.map sv) ez)]):=by
 have hf:Builtin.Str.tooLong ((ls.map (·.1)).toArray.foldl (·+·.length+U1.length) 0)=false:=by
  unfold JoinOk at hok
  rwa[Bool.not_eq_true']at hok
 exact aq F.slot_str_join F.entry_str_join (F.args_str_join_2 _ _) ((meets_str_join_list U1 t (z+937) ls hf).inModel pw w) λA hp g d tk os hA hst hpre nd=>by
  have h:=hpre _ (.head _)
  have h':=h
  rw[be]at h'
  refine⟨typeIs_str _ _ _,⟨_,h',rfl,ez,rfl⟩,?_⟩
  have R:=λ(t' k:Nat)=>(⟨t',hp,k,g,rfl,trivial,hpre,λp h=>.inl (FP h),nd,λb o e _=>a6 e,Nat.le_refl _⟩:bj d os hp hp.objs.size (md ([((z+937,aa (ls.map sv) ez):Addr×Obj)].map (·.1))) (X:=Tok) (λ_ _=>True) (λk=>.ok (.ret (.str (Txt.join U1 (ls.map (·.1))) k))) (λ_=>[(z+937,aa (ls.map sv) ez)]) (.ok (.ret (.str (Txt.join U1 (ls.map (·.1))) t'))) ⟨hp,g,d,k,os⟩)
  exact post_join ls ⟨joinFit_length hf,λt' k=>R t' k⟩
theorem kn{w:World}{x ep:Nat}{is:List Nat}{ps:List SV}(hp:ps.map (·.1)=is.map nm)(hi:∀i∈is,i<6)(hl6:is.length≤18):Spec w 3 none (.call (.ref 905) ⟨[.ref (x+937)],[]⟩) [(x+937,aa (ps.map sv) ep)]
  (X:=Tok) (λ_ _=>True) (λt=>.ok (.ret (.str (Txt.join U1 (is.map qn)) t))) (λ_=>[(x+937,aa (ps.map sv) ep)]):=by
 have hl:([]:List SV).length+is.length≤100:=by rw[List.length_nil];lia
 refine ak λA R d os hb m0 g tk b Z F E=>?_
 refine ex F Z 7 532480 ?_
 intro sS
 refine cx (post:=λ(r:B8)=>[(b+2+937,av r.j),(b+937,ui w.params tk (tk+1) x (b+1) r.o r.ee),(x+937,aa (ps.map sv) ep),(b+1+937,aa (r.ls.map sv) r.ez)]) (L':=1) (hd':=none) F Z 25 17728568303746 (r8 (y:=b+2) (z:=b+1) (lo:=b) (q1:=tk) (q2:=tk+1) hp hi is 0 [] none 2 0 rfl hl) [3,1,0,2] λ(r:B8)m1 kk1 g1 hr=>?_
 intro sS
 refine da F 7 2 ?_
 intro sS
 have er:r.ls.map (·.1)=is.map qn:=hr
 have hok:JoinOk U1 (r.ls.map (·.1))=true:=er▸qJ hl6
 refine cx (L':=0) (hd':=none) F Z 0 0 (rY (z:=b+1) (ez:=r.ez) (t:=kk1+0) hok) [2] λ(t':Tok)m2 kk2 g2 _=>?_
 intro sS
 exact fs F E 1 0 [0] (λ_ _ _=>t') (by kernel_rfl) (by kernel_rfl) (by rw[←er];kernel_rfl) (by kernel_rfl) trivial
theorem lN{w:World}{L:Nat}{hd:Option Value}{a b:Int}{t u:Tok}(hb:b≠0):Spec w L hd (.call (.builtin "int.__mod__") ⟨[.int a t,.int b u],[]⟩) [] (X:=Tok) (λ_ _=>True) (λk=>.ok (.ret (.int (a.fmod b) k))) (λ_=>[]):=
 dZ (λk=>.int (a.fmod b) k) F.slot_int_mod (λs=>typeIs_int s a t) F.entry_int_mod (F.args_int_mod_2 _ _) (AutoIntG6.int___mod___int_int_1 a t b u (by simpa using hb)) λQ s h=>h _ _
section
noncomputable abbrev IV:=Int×Tok
noncomputable def iv(p:IV):Value:=.int p.1 p.2
noncomputable def rE(n:Int):List Int:=[1+n.fmod 5,(n.fdiv 5).fmod (1+n.fmod 5)]
noncomputable def iM(ns:List Int):List Int:=ns.flatMap rE
theorem xK(n:Int):1+n.fmod 5≠0:=by have:=Int.fmod_nonneg_of_pos n (b:=5) (by decide);omega
noncomputable abbrev zV(P:Params):Option ((Tok×Value)×(Tok×Value))→List DictEntry
 |none=>[]
 |some (p,q)=>[de P (u [120]) p.1 p.2,de P yQ q.1 q.2]
noncomputable abbrev vM(P:Params)(q1 q2 x z:Nat)(o:Option ((Tok×Value)×(Tok×Value)))(ee:Nat):Obj:=e7 ([de P (u [110,117,109,98,101,114,115]) q1 (.ref (x+937)),de P (u [111,99,116,101,116,115]) q2 (.ref (z+937))]++zV P o) ee
noncomputable abbrev vN(P:Params)(y lo:Nat):Code:=cF (br (aE (aj 37)) 1) (.ref (y+937)) (bH 893 (BI P) lo)
structure Ca where
 o:Option ((Tok×Value)×(Tok×Value))
 ee:Nat
 ls:List IV
 ez:Nat
 j:Nat
section
variable{w:World}{x y z lo q1 q2 ep:Nat}{ps:List IV}
theorem sM:∀(rem:List IV)(j:Nat)(ls:List IV)(o:Option ((Tok×Value)×(Tok×Value)))(ee ez:Nat),ps.drop j=rem→ls.length+2*rem.length≤100→
  Spec w 1 none (vN w.params y lo) [(y+937,ai (x+937) j),(lo+937,vM w.params q1 q2 x z o ee),(x+937,aa (ps.map iv) ep),(z+937,aa (ls.map iv) ez)]
   (X:=Ca) (λ_ r=>r.ls.map (·.1)=ls.map (·.1)++iM (rem.map (·.1))) (λ_=>.ok .next) (λr=>[(y+937,av r.j),(lo+937,vM w.params q1 q2 x z r.o r.ee),(x+937,aa (ps.map iv) ep),(z+937,aa (r.ls.map iv) r.ez)]):=by
 obtain⟨v,b1,b2,b3,rfl⟩:=al w
 intro rem
 induction rem with
 |nil =>
  intro j ls o ee ez hd hl
  have hx:(ps.map iv)[j]?=none:=by
   rw[List.getElem?_eq_none]
   rw[FQ]
   exact List.drop_eq_nil_iff.mp hd
  refine ak λA R d os hb m0 g tk b Z F E=>?_
  refine cx (L':=0) (hd':=none) F Z 2 1 (a7 (y:=y) (x:=x) (ep:=ep) (i:=j) hx) [0,2] λnn m1 kk1 g1 _=>?_
  intro sS
  exact fx F E 2 6 [0,1,2,3] ⟨o,ee,ls,ez,j⟩ _ [] [] (FL _) (FK _).symm (FK _).symm
 |cons p rem ih =>
  intro j ls o ee ez hd hl
  obtain⟨hpj,hd'⟩:=aN hd
  obtain⟨n,k⟩:=p
  have hx:(ps.map iv)[j]?=some (.int n k):=by rw[List.getElem?_map,hpj];rfl
  have hn:=xK n
  have hws:(ls.map iv).length+2≤sizeLine:=by rw[FQ,sizeLine_eq];rw[FT]at hl;lia
  have J:∀(t t':Tok)(o:Option ((Tok×Value)×(Tok×Value)))(ee ez:Nat),Spec (ay v b1 b2 b3) 1 none (vN (ay v b1 b2 b3).params y lo) [(y+937,ai (x+937) (j+1)),(lo+937,vM (ay v b1 b2 b3).params q1 q2 x z o ee),(x+937,aa (ps.map iv) ep),(z+937,aa (ls.map iv++[.int (1+n.fmod 5) t,.int ((n.fdiv 5).fmod (1+n.fmod 5)) t']) ez)]
   (X:=Ca) (λ_ r=>r.ls.map (·.1)=ls.map (·.1)++iM (((n,k)::rem).map (·.1))) (λ_=>.ok .next) (λr=>[(y+937,av r.j),(lo+937,vM (ay v b1 b2 b3).params q1 q2 x z r.o r.ee),(x+937,aa (ps.map iv) ep),(z+937,aa (r.ls.map iv) r.ez)]):=λt t' o ee ez=>by
   have z:=ih (j+1) (ls++[(1+n.fmod 5,t),((n.fdiv 5).fmod (1+n.fmod 5),t')]) o ee ez hd' (by rw[FZ];simp only[FT,List.length_nil]at hl⊢;lia)
   rw[FM,FM,FV]at z
   exact z
  clear ih
  refine ak λA R d os hb m0 g tk b Z F E=>?_
  rcases o with _|⟨⟨q3,z3⟩,⟨q4,z4⟩⟩
  ·
   refine cx (L':=0) (hd':=none) F Z 2 1 (am (y:=y) (x:=x) (ep:=ep) (i:=j) hx) [0,2] λ_ m1 kk1 g1 _=>?_
   intro sS
   refine cx (L':=0) (hd':=none) F Z 52 0x2082104104082082082 (lN (t:=kk1+7) (u:=kk1+4) (a:=n.fdiv 5) (b:=1+n.fmod 5) hn) [] λn1 m2 kk2 g2 _=>?_
   intro sS
   refine cx (L':=0) (hd':=none) F Z 2 0 (jt (x:=z) (y:=m2) (xs:=ls.map iv) (vs:=[.int (1+n.fmod 5) (kk1+4),.int ((n.fdiv 5).fmod (1+n.fmod 5)) n1]) (b:=true) (ep:=0) (e:=ez) hws) [3,4] λn2 m3 kk3 g3 _=>?_
   intro sS
   exact dc F E Z 1 0 (J (kk1+4) n1 (some ((kk1,.int n k),(kk1+5,.int (1+n.fmod 5) (kk1+4)))) (ee+2) n2) [0,1,2,3] (λ_ _ _ h=>h)
  ·
   refine cx (L':=0) (hd':=none) F Z 2 1 (am (y:=y) (x:=x) (ep:=ep) (i:=j) hx) [0,2] λ_ m1 kk1 g1 _=>?_
   intro sS
   refine cx (L':=0) (hd':=none) F Z 52 0x2082104104082082082 (lN (t:=kk1+7) (u:=kk1+4) (a:=n.fdiv 5) (b:=1+n.fmod 5) hn) [] λn1 m2 kk2 g2 _=>?_
   intro sS
   refine cx (L':=0) (hd':=none) F Z 2 0 (jt (x:=z) (y:=m2) (xs:=ls.map iv) (vs:=[.int (1+n.fmod 5) (kk1+4),.int ((n.fdiv 5).fmod (1+n.fmod 5)) n1]) (b:=true) (ep:=0) (e:=ez) hws) [3,4] λn2 m3 kk3 g3 _=>?_
   intro sS
   exact dc F E Z 1 0 (J (kk1+4) n1 (some ((q3,.int n k),(q4,.int (1+n.fmod 5) (kk1+4)))) ee n2) [0,1,2,3] (λ_ _ _ h=>h)
end
end
section
noncomputable abbrev c8(bs:List UInt8)(n:Nat):Obj:=⟨.type "bytearray",none,.bytearray ⟨bs⟩ n,#[]⟩
noncomputable def eN(a:Array UInt8)(v:UInt8):Array UInt8:=PySem.W.Fast.tw2398297429280069960 a v
theorem sL(a:Array UInt8)(v:UInt8):eN a v=a.push v:=by
 unfold eN
 rw[←PySem.W.Fast.te2398297429280069960]
theorem gu(bs:List UInt8)(v:UInt8)(n:Nat):Obj.mapBytearray (λa=>eN a v) (c8 bs n)=c8 (bs++[v]) n:=by
 have q:(λa=>eN a v)=λa=>a.push v:=funext λa=>sL a v
 rw[q]
 show(⟨_,none,.bytearray ((⟨bs⟩:Array UInt8).push v) _,_⟩:Obj)=_
 have e:(⟨bs⟩:Array UInt8).push v=⟨bs++[v]⟩:=by simp
 rw[e]
theorem fv(bs:List UInt8)(n:Nat)(h:bs.length≤sizeLine):(c8 bs n).data.pastItsLine=none:=by
 show(if(⟨bs⟩:Array UInt8).size>sizeLine then some "bytearray:memory" else none)=none
 rw[if_neg]
 show¬bs.length>sizeLine
 lia
noncomputable def nE(b:Array UInt8):Sem Value:=PySem.W.Fast.tw3355616597142766678 b
noncomputable def rC(b:Array UInt8):Sem Value:=PySem.W.Fast.tw7653788099203531418 b
theorem mf(bs:List UInt8)(h:bs.length≤sizeLine):nE ⟨bs⟩=rC ⟨bs⟩:=by
 unfold nE rC
 rw[←PySem.W.Fast.te3355616597142766678,←PySem.W.Fast.te7653788099203531418]
 unfold mkBytes mkTextBytes
 rw[if_neg (by show¬bs.length>sizeLine;lia)]
section
variable{w:World}{hd:Option Value}{A:Around}{R:Result→Shared→Prop}{d:Drawn}{os:OsState}{hb:Heap}{m0:cM}{g:Array GenState}{fr:ah}{s:St}{L:Nat}
theorem ze(F:fP w hd A R d os hb m0)(n pl:Nat)(T₁ T₂:Sem Fin)(he:T₁=T₂)
  (ok:(go (ag w hd) n pl s).Y=true) (ab:(go (ag w hd) n pl s).A=(go (ag w hd) n pl s).B) (hT:(go (ag w hd) n pl s).S.T=T₁)
  (h:Gd (aG w A R d os hb m0 g fr) ((go (ag w hd) n pl s).S.setT T₂)):Gd (aG w A R d os hb m0 g fr) s:=by
 refine eI (F g fr) n pl ok ab ?_
 revert hT h
 generalize (go (ag w hd) n pl s).S=s'
 intro hT h
 obtain⟨c,κ,t,oo,nx,tk⟩:=s'
 have hT:t=T₁:=hT
 subst hT he
 exact h
end
end
section
noncomputable abbrev x0(y a:Nat):Code:=.builtin "bytes.__new__.loop" ⟨[.type "bytes",.ref (y+937),.ref (a+937)],[]⟩
noncomputable def u8(i:Nat):UInt8:=i.toUInt8
structure xT where
 t:Tok
 j:Nat
 bs:List UInt8
section
variable{w:World}{x y a ep:Nat}{ps:List IV}{is:List Nat}
@[elab_as_elim] theorem FF{P:Nat→Prop}(h0:P 0)(h1:P 1)(h2:P 2)(h3:P 3)(h4:P 4)(h5:P 5)(i:Nat)(h:i<6):P i:=by
 rcases i with _|_|_|_|_|_|i<;>first|assumption|exact absurd h (by simp)
theorem wh(hp:ps.map (·.1)=is.map (λi:Nat=>(i:Int)))(hi:∀i∈is,i<6):∀(rem:List Nat)(j:Nat)(bs:List UInt8),is.drop j=rem→bs.length+rem.length≤100→
  Spec w 1 none (x0 y a) [(y+937,ai (x+937) j),(x+937,aa (ps.map iv) ep),(a+937,c8 bs 0)]
   (X:=xT) (λ_ r=>True) (λr=>.ok (.ret (.bytes ⟨bs++rem.map u8⟩ r.t))) (λr=>[(x+937,aa (ps.map iv) ep)]):=by
 have hlen:ps.length=is.length:=by have:=congrArg List.length hp;simpa using this
 obtain⟨v,b1,b2,b3,rfl⟩:=al w
 intro rem
 induction rem with
 |nil =>
  intro j bs hd hl
  have hx:(ps.map iv)[j]?=none:=by
   rw[List.getElem?_eq_none]
   rw[FQ,hlen]
   exact List.drop_eq_nil_iff.mp hd
  refine ak λA R d os hb m0 g tk b Z F E=>?_
  refine cx (L':=0) (hd':=none) F Z 1 1 (a7 (y:=y) (x:=x) (ep:=ep) (i:=j) hx) [0,1] λnn m1 kk1 g1 _=>?_
  intro sS
  refine ze F 2 197 (PySem.W.R.bindR (nE ⟨bs⟩) λv=>ret v) (PySem.W.R.bindR (rC ⟨bs⟩) λv=>ret v) (by rw[mf bs (by rw[sizeLine_eq];simp only[List.length_nil]at hl;lia)]) (by kernel_rfl) (by kernel_rfl) (by kernel_rfl) ?_
  rw[List.map_nil,FK]at E
  exact fx F E 1 1 [1] ⟨kk1,0,[]⟩ _ [] [] (FL _) (FK _).symm trivial
 |cons i rem ih =>
  intro j bs hd hl
  obtain⟨hij,hd'⟩:=aN hd
  have hi6:i<6:=hi i (List.mem_of_getElem? hij)
  obtain⟨p,hpj,hpi⟩:∃p,ps[j]?=some p∧p.1=(i:Int):=by
   have:(ps.map (·.1))[j]?=some (i:Int):=by rw[hp,List.getElem?_map,hij];rfl
   rw[List.getElem?_map]at this
   obtain⟨p,e1,e2⟩:=Option.map_eq_some_iff.mp this
   exact⟨p,e1,e2⟩
  obtain⟨S,k⟩:=p
  obtain rfl:S=(i:Int):=hpi
  have hx:(ps.map iv)[j]?=some (.int (i:Int) k):=by rw[List.getElem?_map,hpj];rfl
  have hln:(bs++[u8 i]).length≤sizeLine:=by rw[FZ,sizeLine_eq];rw[FT]at hl;simp only[FT,List.length_nil];lia
  have J:Spec (ay v b1 b2 b3) 1 none (x0 y a) [(y+937,ai (x+937) (j+1)),(x+937,aa (ps.map iv) ep),(a+937,c8 (bs++[u8 i]) 0)]
   (X:=xT) (λ_ r=>True) (λr=>.ok (.ret (.bytes ⟨bs++(i::rem).map u8⟩ r.t))) (λr=>[(x+937,aa (ps.map iv) ep)]):=by
   have z:=ih (j+1) (bs++[u8 i]) hd' (by rw[FZ];simp only[FT,List.length_nil]at hl⊢;lia)
   rw[FV]at z
   exact z
  clear ih
  refine ak λA R d os hb m0 g tk b Z F E=>?_
  refine cx (L':=0) (hd':=none) F Z 1 1 (am (y:=y) (x:=x) (ep:=ep) (i:=j) hx) [0,1] λ_ m1 kk1 g1 _=>?_
  show Gd _ _
  revert hx J hln E
  refine FF ?_ ?_ ?_ ?_ ?_ ?_ i hi6
  ·intro hx hln J E
   refine kp F 3 12483 2 (a+937) (c8 (bs++[u8 0]) 0) [(y+937,ai (x+937) (j+1)),(x+937,aa (ps.map iv) ep),(a+937,Obj.mapBytearray (λa=>eN a (u8 0)) (c8 bs 0))] [(y+937,ai (x+937) (j+1)),(x+937,aa (ps.map iv) ep),(a+937,c8 (bs++[u8 0]) 0)] (.pure (.again (x0 y a))) (by rw[gu]) (fv _ _ hln) (by kernel_rfl) (by kernel_rfl) (by kernel_rfl) (by kernel_rfl) (by kernel_rfl) ?_
   exact dc F E Z 0 0 J [0,1,2] (λ_ _ _ h=>h)
  ·intro hx hln J E
   refine kp F 3 12483 2 (a+937) (c8 (bs++[u8 1]) 0) [(y+937,ai (x+937) (j+1)),(x+937,aa (ps.map iv) ep),(a+937,Obj.mapBytearray (λa=>eN a (u8 1)) (c8 bs 0))] [(y+937,ai (x+937) (j+1)),(x+937,aa (ps.map iv) ep),(a+937,c8 (bs++[u8 1]) 0)] (.pure (.again (x0 y a))) (by rw[gu]) (fv _ _ hln) (by kernel_rfl) (by kernel_rfl) (by kernel_rfl) (by kernel_rfl) (by kernel_rfl) ?_
   exact dc F E Z 0 0 J [0,1,2] (λ_ _ _ h=>h)
  ·intro hx hln J E
   refine kp F 3 12483 2 (a+937) (c8 (bs++[u8 2]) 0) [(y+937,ai (x+937) (j+1)),(x+937,aa (ps.map iv) ep),(a+937,Obj.mapBytearray (λa=>eN a (u8 2)) (c8 bs 0))] [(y+937,ai (x+937) (j+1)),(x+937,aa (ps.map iv) ep),(a+937,c8 (bs++[u8 2]) 0)] (.pure (.again (x0 y a))) (by rw[gu]) (fv _ _ hln) (by kernel_rfl) (by kernel_rfl) (by kernel_rfl) (by kernel_rfl) (by kernel_rfl) ?_
   exact dc F E Z 0 0 J [0,1,2] (λ_ _ _ h=>h)
  ·intro hx hln J E
   refine kp F 3 12483 2 (a+937) (c8 (bs++[u8 3]) 0) [(y+937,ai (x+937) (j+1)),(x+937,aa (ps.map iv) ep),(a+937,Obj.mapBytearray (λa=>eN a (u8 3)) (c8 bs 0))] [(y+937,ai (x+937) (j+1)),(x+937,aa (ps.map iv) ep),(a+937,c8 (bs++[u8 3]) 0)] (.pure (.again (x0 y a))) (by rw[gu]) (fv _ _ hln) (by kernel_rfl) (by kernel_rfl) (by kernel_rfl) (by kernel_rfl) (by kernel_rfl) ?_
   exact dc F E Z 0 0 J [0,1,2] (λ_ _ _ h=>h)
  ·intro hx hln J E
   refine kp F 3 12483 2 (a+937) (c8 (bs++[u8 4]) 0) [(y+937,ai (x+937) (j+1)),(x+937,aa (ps.map iv) ep),(a+937,Obj.mapBytearray (λa=>eN a (u8 4)) (c8 bs 0))] [(y+937,ai (x+937) (j+1)),(x+937,aa (ps.map iv) ep),(a+937,c8 (bs++[u8 4]) 0)] (.pure (.again (x0 y a))) (by rw[gu]) (fv _ _ hln) (by kernel_rfl) (by kernel_rfl) (by kernel_rfl) (by kernel_rfl) (by kernel_rfl) ?_
   exact dc F E Z 0 0 J [0,1,2] (λ_ _ _ h=>h)
  ·intro hx hln J E
   refine kp F 3 12483 2 (a+937) (c8 (bs++[u8 5]) 0) [(y+937,ai (x+937) (j+1)),(x+937,aa (ps.map iv) ep),(a+937,Obj.mapBytearray (λa=>eN a (u8 5)) (c8 bs 0))] [(y+937,ai (x+937) (j+1)),(x+937,aa (ps.map iv) ep),(a+937,c8 (bs++[u8 5]) 0)] (.pure (.again (x0 y a))) (by rw[gu]) (fv _ _ hln) (by kernel_rfl) (by kernel_rfl) (by kernel_rfl) (by kernel_rfl) (by kernel_rfl) ?_
   exact dc F E Z 0 0 J [0,1,2] (λ_ _ _ h=>h)
end
end
theorem lC{w:World}{x ep:Nat}{is:List Nat}{ps:List IV}(hp:ps.map (·.1)=is.map (λi:Nat=>(i:Int)))(hi:∀i∈is,i<6)(hl6:is.length≤100):Spec w 1 none (.call (.builtin "bytes.__new__") ⟨[.type "bytes",.ref (x+937)],[]⟩) [(x+937,aa (ps.map iv) ep)]
  (X:=xT) (λ_ _=>True) (λr=>.ok (.ret (.bytes ⟨is.map u8⟩ r.t))) (λ_=>[(x+937,aa (ps.map iv) ep)]):=by
 have I:=λy a=>wh (w:=w) (x:=x) (y:=y) (a:=a) (ep:=ep) hp hi is 0 [] rfl (by rw[List.length_nil];lia)
 refine ak λA R d os hb m0 g tk b Z F E=>?_
 exact dc F E Z 18 0x41081fc1041041041 (I b (b+1)) [1,0,2] (λ_ _ _ h=>h)
section
noncomputable abbrev bP(x left step:Int):Obj:=⟨.type "range_iterator",none,.fields ⟨[.int x 0,.int left 0,.int step 0]⟩,⟨[]⟩⟩
section
variable{w:World}{L:Nat}{hd:Option Value}{y:Nat}{x left step:Int}
theorem u7(h:¬left≤0):Spec w L hd (.call (.builtin "range_iterator.__next__") ⟨[.ref (y+937)],[]⟩) [(y+937,bP x left step)] (X:=Tok) (λ_ _=>True) (λt=>.ok (.ret (.int x t))) (λ_=>[(y+937,bP (x+step) (left-1) step)]):=
 aq F.slot_range_iterator_next F.entry_range_iterator_next (F.args_range_iterator_next_1 _) ((AutoRange.range_iterator___next___range_iterator_1 (y+937) x left step h).inModel pw w) λA hp g d tk os hA hst hpre nd=>by
  have h0:=hpre _ (.head _)
  have s1:Heap.SameBut (y+937) hp (hp.update (y+937) (Obj.mapFields λf=>f.setIfInBounds 0 (rawInt (x+step)))):=Heap.SameBut.update ..
  have s2:=Heap.SameBut.update (hp.update (y+937) (Obj.mapFields λf=>f.setIfInBounds 0 (rawInt (x+step)))) (y+937) (Obj.mapFields λf=>f.setIfInBounds 1 (rawInt (left-1)))
  refine⟨⟨_,h0,rfl⟩,h0,tk,_,tk+1,g,rfl,trivial,?_,λp h=>.inl (by simpa using FP (f:=(·.1)) h),by simp,?_,?_⟩
  ·intro p hp'
   cases FW.mp hp'
   exact Heap.get?_update_self _ (Heap.get?_update_self _ h0 rfl) rfl
  ·intro b o e hb
   simp only[FR,List.map_nil,FW]at hb
   exact a6 ((s2.2 b hb).trans ((s1.2 b hb).trans e))
  ·exact Nat.le_of_eq (s2.1.trans s1.1).symm
theorem cy{i m st:Nat}:Spec w L hd (.call (.builtin "range_iterator.__next__") ⟨[.ref (y+937)],[]⟩) [(y+937,bP (i:Nat) (m+1:Nat) (st:Nat))] (X:=Tok) (λ_ _=>True) (λt=>.ok (.ret (.int (i:Nat) t))) (λ_=>[(y+937,bP (i+st:Nat) (m:Nat) (st:Nat))]):=by
 have z:=u7 (w:=w) (L:=L) (hd:=hd) (y:=y) (x:=(i:Nat)) (left:=(m+1:Nat)) (step:=(st:Nat)) (by lia)
 have e1:((i:Nat):Int)+((st:Nat):Int)=((i+st:Nat):Int):=by lia
 have e2:((m+1:Nat):Int)-1=((m:Nat):Int):=by lia
 rw[e1,e2]at z
 exact z
end
end
theorem uI:Manifest.owners.lookup (String.ofList ['y','a','r','r','a','e','t','y','b'].reverse)=some Manifest.sig_bytearray:=by kernel_rfl
theorem o6:Slot "bytearray" "__setitem__" "bytearray.__setitem__" :=
 .of (owner:="bytearray") (n:="__setitem__") (by rw[typeLookup_type,builtinLookup_eq_fast];kernel_rfl) (by decide +kernel) (by decide +kernel) (by decide +kernel)
  (by first|exact .inl (by decide +kernel)|exact .inr (by decide +kernel)) (by rw[isSubtype_type];kernel_rfl)
theorem mG:entryFor table "bytearray.__setitem__"=some Builtin.«bytearray.__setitem__»:=entryFor_of_tree (by kernel_rfl)
theorem nU(a b c:Value):argsOk "bytearray.__setitem__" ⟨[a,b,c],[]⟩:=by
 unfold argsOk;rw[signature?_of (id:="bytearray.__setitem__") (n:=['_','_','m','e','t','i','t','e','s','_','_']) (o:=['y','a','r','r','a','e','t','y','b']) (by kernel_rfl) uI];kernel_rfl
theorem cr{w:World}{L:Nat}{hd:Option Value}{b:Array UInt8}{i:Int}{t v:Tok}{c:UInt8}(hr:Builtin.Bytes.fitsIndex i=true)(h:(seqIndex? i b.size).bind (b[·]?)=some c):Spec w L hd (.call (.builtin "bytes.__getitem__") ⟨[.bytes b t,.int i v],[]⟩) [] (X:=Tok) (λ_ _=>True) (λk=>.ok (.ret (.int c.toNat k))) (λ_=>[]):=
 dZ (λk=>.int c.toNat k) PySem.W.FB.slot_bytes_getitem (λs=>PySem.W.typeIs_bytes s b t) PySem.W.FB.entry_bytes_getitem (PySem.W.FB.args_bytes_getitem_2 _ _) (PySem.W.gives_bytes_getitem b i t v c hr h) λQ s h=>h _ _
noncomputable def y4(a:Addr)(bs:List UInt8)(n k:Nat)(c:UInt8):PySem.Spec:=λ_ R s=>s.heap.get? a=some (c8 bs n)∧R (.ok (.ret .none)) {s with heap:=s.heap.update a (Obj.mapBytearray (·.setIfInBounds k c))}
theorem AV{w:World}{A:Around}{R:Result→Shared→Prop}{s:Shared}{a:Addr}{bs:List UInt8}{n k:Nat}{c:UInt8}{t v:Tok}{i x:Int}(hi:i=(k:Int))(hx:x=(c.toNat:Int))(hk:k<bs.length)(hr:Builtin.Bytes.fitsIndex i=true)(hz:bs.length≤sizeLine)
  (ho:s.heap.get? a=some (c8 bs n)) (h:R (.ok (.ret .none)) {s with heap:=s.heap.update a (Obj.mapBytearray (·.setIfInBounds k c))}):
  wpAny (model pw w) A.in1 (Builtin.«bytearray.__setitem__» ⟨[.ref a,.int i t,.int x v],[]⟩) (λfin s'=>∃v,fin=.done (.ret v)∧R (.ok (.ret v)) s') (λe s'=>R (.error e) s') s:=by
  unfold Builtin.«bytearray.__setitem__»
  dsimp only[List.isEmpty]
  rw[if_neg (show¬((!true)=true)from Bool.false_ne_true)]
  refine wpAny_bind ?_
  unfold Builtin.Bytes.subscript?
  refine wpAny_bind (wpAny_specialOf (typeIs_int s i t) F.slot_int_index.lookup ?_)
  dsimp only[Option.isNone]
  rw[if_neg Bool.false_ne_true]
  refine wpAny_bind (wpAny_of_eq (a:=i) rfl ?_)
  rw[hr]
  rw[if_neg (show¬((!true)=true)from Bool.false_ne_true)]
  refine wpAny_pure ?_
  dsimp only
  refine wpAny_bind ?_
  unfold Builtin.Bytes.byteValue
  refine wpAny_bind (wpAny_of_eq (a:=x) rfl ?_)
  have hc:c.toNat<256:=c.toNat_lt
  rw[if_neg (show¬((decide (x<0)||decide (x≥256))=true)by simp only[Bool.or_eq_true,decide_eq_true_eq];lia)]
  refine wpAny_pure ?_
  have hcc:x.toNat.toUInt8=c:=by rw[hx];simp
  rw[hcc]
  refine wpAny_bind ?_
  unfold Builtin.Bytes.payload Builtin.Bytes.payload?
  refine wpAny_bind (wpAny_bind (wpAny_load ho ?_))
  refine wpAny_pure (wpAny_pure ?_)
  have hs:seqIndex? i (⟨bs⟩:Array UInt8).size=some k:=by
   rw[hi]
   unfold seqIndex?
   have e:(⟨bs⟩:Array UInt8).size=bs.length:=rfl
   rw[e]
   simp only[show¬(k:Int)<0 by lia,if_false]
   simp
   lia
  dsimp only
  rw[hs]
  dsimp only
  refine wpAny_bind ?_
  unfold Builtin.Bytes.write
  dsimp only
  unfold updateBytearray
  refine wpAny_bind (wpAny_load ho ?_)
  dsimp only
  refine wpAny_bind (wpAny_update ho ?_)
  refine wpAny_lookBehind (Heap.get?_update_self (Obj.mapBytearray (·.setIfInBounds k c)) ho rfl) ?_ ?_
  ·show(if((⟨bs⟩:Array UInt8).setIfInBounds k c).size>sizeLine then some "bytearray:memory" else none)=none
   rw[if_neg]
   simp only[Array.size_setIfInBounds]
   show¬bs.length>sizeLine
   lia
  ·exact wpAny_pure ⟨_,rfl,h⟩
theorem to{w:World}{a:Addr}{bs:List UInt8}{n k:Nat}{c:UInt8}{t v:Tok}{i x:Int}(hi:i=(k:Int))(hx:x=(c.toNat:Int))(hk:k<bs.length)(hr:Builtin.Bytes.fitsIndex i=true)(hz:bs.length≤sizeLine):
  MeetsIn pw w (Builtin.«bytearray.__setitem__» ⟨[.ref a,.int i t,.int x v],[]⟩) (y4 a bs n k c):=
 .of_wp λA R s hh=>AV hi hx hk hr hz hh.1 hh.2
theorem nW{w:World}{L:Nat}{hd:Option Value}{a n k:Nat}{bs:List UInt8}{c:UInt8}{t v:Tok}{i x:Int}(hi:i=(k:Int))(hx:x=(c.toNat:Int))(hk:k<bs.length)(hz:bs.length≤1000):Spec w L hd (.call (.builtin "bytearray.__setitem__") ⟨[.ref (a+937),.int i t,.int x v],[]⟩) [(a+937,c8 bs n)] (X:=Unit) (λ_ _=>True) (λ_=>.ok (.ret .none)) (λ_=>[(a+937,c8 (bs.set k c) n)]):=
 aq o6 mG (nU _ _ _) (to hi hx hk (by subst hi;unfold Builtin.Bytes.fitsIndex;simp;lia) (by rw[sizeLine_eq];lia)) λA hp g d tk os hA hst hpre nd=>by
  have h:=hpre _ (.head _)
  have hs:Heap.SameBut (a+937) hp (hp.update (a+937) (Obj.mapBytearray (·.setIfInBounds k c))):=Heap.SameBut.update ..
  have he:Obj.mapBytearray (·.setIfInBounds k c) (c8 bs n)=c8 (bs.set k c) n:=by
   show(⟨_,none,.bytearray ((⟨bs⟩:Array UInt8).setIfInBounds k c) _,_⟩:Obj)=_
   have:(⟨bs⟩:Array UInt8).setIfInBounds k c=⟨bs.set k c⟩:=by simp
   rw[this]
  refine⟨⟨_,h,rfl⟩,h,(),_,tk,g,rfl,trivial,?_,λp h=>.inl (by simpa using FP (f:=(·.1)) h),by simp,?_,?_⟩
  ·intro p hp'
   cases FW.mp hp'
   have:=Heap.get?_update_self (Obj.mapBytearray (·.setIfInBounds k c)) h (by rw[he];rfl)
   rw[he]at this
   exact this
  ·intro b o e hb
   simp only[FR,List.map_nil,FW]at hb
   exact a6 ((hs.2 b hb).trans e)
  ·exact Nat.le_of_eq hs.1.symm
section
noncomputable def vV(cs:List UInt8)(i wd:Nat):Nat→Nat→List UInt8→List UInt8
 |0,_,bs=>bs
 |m+1,j,bs=>vV cs i wd m (j+1) (bs.set (i+wd-1-j) (cs[i+j]?.getD 0))
noncomputable abbrev vC(P:Params):Option (Tok×Value)→List DictEntry
 |none=>[]
 |some p=>[de P (u [106]) p.1 p.2]
noncomputable abbrev xG(P:Params)(q1 q2 q3 q4 t1 t2 t3 a wd i:Nat)(cs:List UInt8)(o:Option (Tok×Value))(ee:Nat):Obj:=e7 ([de P (u [100,97,116,97]) q1 (.bytes ⟨cs⟩ t1),de P Ci q2 (.int (wd:Nat) t2),de P At q3 (.ref (a+937)),de P (u [105]) q4 (.int (i:Nat) t3)]++vC P o) ee
noncomputable abbrev vB(P:Params)(y lo:Nat):Code:=cF (br (ir (br (aE (aj 4)) 1)) 0) (.ref (y+937)) (bH 51 (DE P) lo)
structure Cx where
 o:Option (Tok×Value)
 ee:Nat
 k:Nat
section
variable{w:World}{a y lo q1 q2 q3 q4 t1 t2 t3 i wd:Nat}{cs:List UInt8}
theorem xJ(hi:i+wd≤cs.length)(hc:cs.length≤1000):∀(m j:Nat)(bs:List UInt8)(o:Option (Tok×Value))(ee:Nat),j+m≤wd→bs.length=cs.length→
  Spec w 1 none (vB w.params y lo) [(y+937,bP (j:Nat) (m:Nat) (1:Nat)),(lo+937,xG w.params q1 q2 q3 q4 t1 t2 t3 a wd i cs o ee),(a+937,c8 bs 0)]
   (X:=Cx) (λ_ r=>True) (λ_=>.ok .next) (λr=>[(y+937,bP (r.k:Nat) (0:Nat) (1:Nat)),(lo+937,xG w.params q1 q2 q3 q4 t1 t2 t3 a wd i cs r.o r.ee),(a+937,c8 (vV cs i wd m j bs) 0)]):=by
 obtain⟨v,b1,b2,b3,rfl⟩:=al w
 intro m
 induction m with
 |zero =>
  intro j bs o ee hd hl
  refine ak λA R d os hb m0 g tk b Z F E=>?_
  exact fx F E 15 5385752641 [0,1,2] ⟨o,ee,j⟩ _ [] [] (FL _) (FK _).symm trivial
 |succ m ih =>
  intro j bs o ee hd hl
  have hij:i+j<cs.length:=by lia
  obtain⟨c,hc0⟩:∃c,cs[i+j]?=some c:=⟨_,List.getElem?_eq_getElem hij⟩
  have hgd:cs[i+j]?.getD 0=c:=by rw[hc0];rfl
  have hk:i+wd-1-j<bs.length:=by lia
  have hix:(i:Int)+(wd:Int)-1-(j:Int)=((i+wd-1-j:Nat):Int):=by lia
  have hz:bs.length≤1000:=by lia
  have e0:(i:Int)+(j:Int)=((i+j:Nat):Int):=by lia
  have hfit:Builtin.Bytes.fitsIndex ((i:Int)+(j:Int))=true:=by rw[e0];unfold Builtin.Bytes.fitsIndex;simp;lia
  have hget:(seqIndex? ((i:Int)+(j:Int)) (⟨cs⟩:Array UInt8).size).bind ((⟨cs⟩:Array UInt8)[·]?)=some c:=by
   have e1:seqIndex? ((i:Int)+(j:Int)) (⟨cs⟩:Array UInt8).size=some (i+j):=by
    rw[e0]
    unfold seqIndex?
    have e:(⟨cs⟩:Array UInt8).size=cs.length:=rfl
    rw[e]
    simp only[show¬((i+j:Nat):Int)<0 by lia,if_false]
    simp
    lia
   rw[e1]
   simpa using hc0
  have J:∀(o:Option (Tok×Value))(ee:Nat),Spec (ay v b1 b2 b3) 1 none (vB (ay v b1 b2 b3).params y lo) [(y+937,bP (j+1:Nat) (m:Nat) (1:Nat)),(lo+937,xG (ay v b1 b2 b3).params q1 q2 q3 q4 t1 t2 t3 a wd i cs o ee),(a+937,c8 (bs.set (i+wd-1-j) c) 0)]
   (X:=Cx) (λ_ r=>True) (λ_=>.ok .next) (λr=>[(y+937,bP (r.k:Nat) (0:Nat) (1:Nat)),(lo+937,xG (ay v b1 b2 b3).params q1 q2 q3 q4 t1 t2 t3 a wd i cs r.o r.ee),(a+937,c8 (vV cs i wd (m+1) j bs) 0)]):=λo ee=>by
   have z:=ih (j+1) (bs.set (i+wd-1-j) c) o ee (by lia) (by rw[List.length_set];exact hl)
   rw[show vV cs i wd (m+1) j bs=vV cs i wd m (j+1) (bs.set (i+wd-1-j) c)by rw[vV,hgd]]
   exact z
  clear ih
  refine ak λA R d os hb m0 g tk b Z F E=>?_
  rcases o with _|⟨q5,z5⟩
  ·
   refine cx (L':=0) (hd':=none) F Z 2 1 (cy (y:=y) (i:=j) (m:=m) (st:=1)) [0] λt m1 kk1 g1 _=>?_
   intro sS
   refine cx (L':=0) (hd':=none) F Z 20 34087042 (cr (b:=⟨cs⟩) (i:=(i:Int)+(j:Int)) (t:=t1) (v:=kk1+1) (c:=c) hfit hget) [] λt' m2 kk2 g2 _=>?_
   intro sS
   refine cx (L':=0) (hd':=none) F Z 27 3272089730 (nW (a:=a) (n:=0) (t:=kk2+3) (v:=t'+0) (k:=(i+wd-1-j)) (bs:=bs) (c:=c) (i:=(i:Int)+(wd:Int)-1-(j:Int)) (x:=(c.toNat:Int)) hix rfl hk hz) [2] λ_ m3 kk3 g3 _=>?_
   intro sS
   exact dc F E Z 0 0 (J (some (kk1,.int (j:Nat) t)) (ee+1)) [0,1,2] (λ_ _ _ h=>h)
  ·
   refine cx (L':=0) (hd':=none) F Z 2 1 (cy (y:=y) (i:=j) (m:=m) (st:=1)) [0] λt m1 kk1 g1 _=>?_
   intro sS
   refine cx (L':=0) (hd':=none) F Z 20 34087042 (cr (b:=⟨cs⟩) (i:=(i:Int)+(j:Int)) (t:=t1) (v:=kk1+1) (c:=c) hfit hget) [] λt' m2 kk2 g2 _=>?_
   intro sS
   refine cx (L':=0) (hd':=none) F Z 27 3272089730 (nW (a:=a) (n:=0) (t:=kk2+3) (v:=t'+0) (k:=(i+wd-1-j)) (bs:=bs) (c:=c) (i:=(i:Int)+(wd:Int)-1-(j:Int)) (x:=(c.toNat:Int)) hix rfl hk hz) [2] λ_ m3 kk3 g3 _=>?_
   intro sS
   exact dc F E Z 0 0 (J (some (q5,.int (j:Nat) t)) ee) [0,1,2] (λ_ _ _ h=>h)
end
end
noncomputable abbrev NV:=Nat×Tok
noncomputable def nv(p:NV):Value:=.int (p.1:Nat) p.2
structure Ar where
 r:Nat
 a:Nat
 b:Nat
 t:Tok
 v:Tok
noncomputable def bT(x:Ar):Value:=.ref (x.r+937)
noncomputable def aO(x:Ar):Addr×Obj:=(x.r+937,aW [.int (x.a:Nat) x.t,.int (x.b:Nat) x.v])
noncomputable abbrev ku(P:Params)(lo:Nat):Env:=bH 931 (BL P) lo
noncomputable abbrev jo:Expr:=eQ (eJ (br (aE (aj 43)) 0))
noncomputable abbrev zW(P:Params)(y ac lo lc:Nat):Code:=.compLoop jo 0 (.ref (y+937)) (.ref (ac+937)) (fL jo (ku P lo) lc)
noncomputable abbrev xP(P:Params)(y ac lo lc:Nat):Code:=.compStart jo 0 (.ref (y+937)) (.ref (ac+937)) (fL jo (ku P lo) lc)
noncomputable abbrev um(P:Params)(lo:Nat):Env:={ku P lo with cells:=[(Cj,lo+939),(yQ,lo+938)]}
noncomputable abbrev aC(v:Option Value):Obj:=⟨.type "cell",none,.cell v,⟨[]⟩⟩
noncomputable def CR:Expr→Expr
 |.BinOp a _ _ _=>a
 |_=>.Name ⟨#[]⟩ default
noncomputable abbrev uo:Stmt:=br (ir (br (aE (aj 43)) 2)) 0
noncomputable abbrev wV(P:Params)(y lo:Nat):Code:=cF uo (.ref (y+937)) (um P lo)
noncomputable abbrev wU(P:Params)(y lo:Nat):Code:=cF (br (aE (aj 43)) 2) (.ref (y+937)) (um P lo)
noncomputable abbrev qk:Expr:=CR (eQ (eJ (br (ir uo) 0)))
noncomputable def iu(s:Scope):Scope:={s with names:=s.names.map λp=>match p.2 with|.free=>(p.1,.cell)|_=>p}
noncomputable abbrev xZ(P:Params)(lo lc:Nat):Env:={fL qk (ku P lo) lc with scope:=iu (bZ qk),cells:=[(yQ,lo+938),(Cj,lo+939)]}
noncomputable abbrev y7(P:Params)(y ac lo lc:Nat):Code:=.compLoop qk 0 (.ref (y+937)) (.ref (ac+937)) (xZ P lo lc)
noncomputable abbrev wf(P:Params)(y ac lo lc:Nat):Code:=.compStart qk 0 (.ref (y+937)) (.ref (ac+937)) (xZ P lo lc)
noncomputable def qo:Expr→Expr
 |.ListComp e _ _ _=>e
 |_=>.Name ⟨#[]⟩ default
noncomputable abbrev oU:Expr:=nt (br (aE (aj 43)) 3)
noncomputable abbrev mY:Expr:=eQ (qo oU)
noncomputable abbrev yx(P:Params)(lo lc kz:Nat):Env:={fL oU (ku P lo) lc with scope:=iu (bZ oU),cells:=[(u [107],kz+937),(Cj,lo+939)]}
noncomputable abbrev zI(P:Params)(y ac lo lc kz:Nat):Code:=.compLoop oU 0 (.ref (y+937)) (.ref (ac+937)) (yx P lo lc kz)
noncomputable abbrev xr(P:Params)(y ac lo lc kz:Nat):Code:=.compStart oU 0 (.ref (y+937)) (.ref (ac+937)) (yx P lo lc kz)
noncomputable abbrev yl(P:Params)(lo lc kz:Nat):Env:={fL mY (ku P lo) lc with scope:=iu (bZ mY),cells:=[(Cj,lo+939),(u [107],kz+937)]}
noncomputable abbrev zp(P:Params)(y ac lo lc kz:Nat):Code:=.compLoop mY 0 (.ref (y+937)) (.ref (ac+937)) (yl P lo lc kz)
noncomputable abbrev w5(P:Params)(y ac lo lc kz:Nat):Code:=.compStart mY 0 (.ref (y+937)) (.ref (ac+937)) (yl P lo lc kz)
theorem mh(l:Addr)(i:Nat):(bQ l i).cls=.type "tuple_iterator":=by kernel_rfl
theorem gY(w:World)(it l:Addr)(i:Nat)(vs:List Value)(x:Value)(hx:vs[i]?=some x):
  MeetsIn pw w (Builtin.«tuple_iterator.__next__» ⟨[.ref it],[]⟩) (λ_ R s=>s.heap.get? it=some (bQ l i)∧s.heap.get? l=some (aW vs)∧R (.ok (.ret x)) {s with heap:=s.heap.update it (Obj.mapFields λf=>f.setIfInBounds 1 (rawInt (i+1)))}):=
 .of_wp λA R s⟨ho,hol,h⟩=>by
  have hx':(⟨vs⟩:Array Value)[i]?=some x:=by simpa using hx
  show wpAny _ _ (field (.ref it) 0>>=_) _ _ s
  refine wpAny_bind (wpAny_field ho rfl (x:=.ref l) rfl ?_)
  show wpAny _ _ (if(Value.ref l==Value.none)=true then _ else _) _ _ s
  rw[if_neg (show¬((Value.ref l==Value.none)=true)from Bool.false_ne_true)]
  show wpAny _ _ (field (.ref it) 1>>=_) _ _ s
  refine wpAny_bind (wpAny_field ho rfl (x:=.int i 0) rfl ?_)
  show wpAny _ _ (seqItems? (.ref l)>>=_) _ _ s
  refine wpAny_bind (wpAny_seqItems hol rfl ?_)
  simp only[Int.toNat_natCast,hx']
  exact wpAny_bind (wpAny_setField ho rfl (by simp) (wpAny_pure ⟨x,rfl,h⟩))
theorem iS{w:World}{L:Nat}{hd:Option Value}{y x i:Nat}{vs:List Value}{v:Value}(hx:vs[i]?=some v):Spec w L hd (.call (.builtin "tuple_iterator.__next__") ⟨[.ref (y+937)],[]⟩) [(y+937,bQ (x+937) i),(x+937,aW vs)] (X:=Unit) (λ_ _=>True) (λ_=>.ok (.ret v)) (λ_=>[(y+937,bQ (x+937) (i+1)),(x+937,aW vs)]):=
 aq F.slot_tuple_iterator_next F.entry_tuple_iterator_next (F.args_tuple_iterator_next_1 _) (gY w (y+937) (x+937) i vs v hx) λA hp g d tk os hA hst hpre nd=>by
  have h:=hpre _ (.head _)
  have h2:=hpre _ (.tail _ (.head _))
  have hne:(x+937:Addr)≠y+937:=by
   intro e
   simp[e]at nd
  have hs:Heap.SameBut (y+937) hp (hp.update (y+937) (Obj.mapFields λf=>f.setIfInBounds 1 (rawInt (i+1)))):=Heap.SameBut.update ..
  refine⟨⟨_,h,mh _ _⟩,h,h2,(),_,tk,g,rfl,trivial,?_,?_,nd,?_,?_⟩
  ·intro p hp'
   rcases FY.mp hp' with rfl|hp'
   ·exact Heap.get?_update_self _ h rfl
   ·cases FW.mp hp'
    exact(hs.2 _ hne).trans h2
  ·exactλp hp'=>.inl (FP (f:=(·.1)) hp':p.1∈[(y+937,bQ (x+937) (i+1)),(x+937,aW vs)].map (·.1))
  ·intro b o e hb
   simp only[FR,List.map_nil,FY,not_or]at hb
   exact a6 ((hs.2 b hb.1).trans e)
  ·exact Nat.le_of_eq hs.1.symm
noncomputable abbrev dk(i:Nat):Obj:=⟨.type SL.s4096838299382398694x14,none,.fields ⟨[.none,.int i 0]⟩,⟨[]⟩⟩
theorem iB(w:World)(it l:Addr)(i:Nat)(vs:List Value)(hx:vs[i]?=none):
  MeetsIn pw w (Builtin.«tuple_iterator.__next__» ⟨[.ref it],[]⟩) (λA R s=>A.handled=none∧s.heap.get? it=some (bQ l i)∧s.heap.get? l=some (aW vs)∧
   R (.error (.ref (s.heap.objs.size+1))) {s with heap:=((s.heap.update it (Obj.mapFields λf=>f.setIfInBounds 0 .none)).push {cls:=.type "tuple",data:=.seq #[]}).push {cls:=.type "StopIteration",data:=.fields #[.ref s.heap.objs.size,.none,.none,.none,.bool false,.none]}}):=
 .of_wp λA R s⟨hh,ho,hol,h⟩=>by
  have hx':(⟨vs⟩:Array Value)[i]?=none:=by simpa using hx
  show wpAny _ _ (field (.ref it) 0>>=_) _ _ s
  refine wpAny_bind (wpAny_field ho rfl (x:=.ref l) rfl ?_)
  show wpAny _ _ (if(Value.ref l==Value.none)=true then _ else _) _ _ s
  rw[if_neg (show¬((Value.ref l==Value.none)=true)from Bool.false_ne_true)]
  show wpAny _ _ (field (.ref it) 1>>=_) _ _ s
  refine wpAny_bind (wpAny_field ho rfl (x:=.int i 0) rfl ?_)
  show wpAny _ _ (seqItems? (.ref l)>>=_) _ _ s
  refine wpAny_bind (wpAny_seqItems hol rfl ?_)
  simp only[Int.toNat_natCast,hx']
  refine wpAny_bind (wpAny_rule (wpAny_bind (wpAny_setField ho rfl (by simp) ?_)))
  show wpAny _ _ (newExc (.type "StopIteration") []>>=_) _ _ _
  refine wpAny_bind ?_
  delta newExc newTuple
  refine wpAny_bind (wpAny_newObj_type ?_ (by size_fits))
  refine wpAny_bind (m:=firstArgMember _ _) (wpAny_of_eq (a:=Value.none) (by first|rfl|(simp only[firstArgMember];rfl)) ?_)
  refine wpAny_newObj_type ?_ (by size_fits)
  delta raiseNew
  refine wpAny_bind (wpAny_handled ?_)
  rw[show A.in1.handled=none from hh]
  refine wpAny_bind (wpAny_pure (wpAny_throw ?_))
  have e1:(s.heap.update it (Obj.mapFields λf=>f.setIfInBounds 0 .none)).objs.size=s.heap.objs.size:=(Heap.SameBut.update ..).1
  simp only[Heap.size_push,e1]
  exact h
theorem iT{w:World}{L:Nat}{y x i:Nat}{vs:List Value}(hx:vs[i]?=none):Spec w L none (.call (.builtin "tuple_iterator.__next__") ⟨[.ref (y+937)],[]⟩) [(y+937,bQ (x+937) i),(x+937,aW vs)] (X:=Nat) (λ_ _=>True) (λn=>.error (.ref (n+938))) (λn=>[(y+937,dk i),(x+937,aW vs)]++[(n+937,aW []),(n+938,b8 (n+937))]):=
 aq F.slot_tuple_iterator_next F.entry_tuple_iterator_next (F.args_tuple_iterator_next_1 _) (iB w (y+937) (x+937) i vs hx) λA hp g d tk os hA hst hpre nd=>by
  have h:=hpre _ (.head _)
  have h2:=hpre _ (.tail _ (.head _))
  obtain⟨n,hn⟩:∃n,hp.objs.size=n+937:=⟨hp.objs.size-937,by have:=aV w hp hst;lia⟩
  have hne:(x+937:Addr)≠y+937:=by
   intro e
   simp[e]at nd
  have hs:Heap.SameBut (y+937) hp (hp.update (y+937) (Obj.mapFields λf=>f.setIfInBounds 0 .none)):=Heap.SameBut.update ..
  have l1:y+937<n+937:=hn▸Heap.lt_size h
  have l2:x+937<n+937:=hn▸Heap.lt_size h2
  rw[hn]
  refine⟨⟨_,h,mh _ _⟩,hA,h,h2,n,_,tk,g,rfl,trivial,?_,?_,?_,?_,?_⟩
  ·intro p hp'
   simp only[List.cons_append,List.nil_append,FY,FU,or_false]at hp'
   rcases hp' with rfl|rfl|rfl|rfl
   ·exact Heap.get?_push_of_some _ (Heap.get?_push_of_some _ (Heap.get?_update_self _ h rfl))
   ·exact Heap.get?_push_of_some _ (Heap.get?_push_of_some _ ((hs.2 _ hne).trans h2))
   ·refine Heap.get?_push_of_some _ ?_
    rw[iQ,←hn,←hs.1]
    exact Heap.get?_push_size _ rfl
   ·rw[iK]
    have:n+938=((hp.update (y+937) (Obj.mapFields λf=>f.setIfInBounds 0 .none)).push {cls:=.type "tuple",data:=.seq #[]}).objs.size:=by rw[Heap.size_push,hs.1,hn]
    rw[this]
    exact Heap.get?_push_size _ rfl
  ·intro p hp'
   simp only[List.cons_append,List.nil_append,FY,FU,or_false]at hp'
   rcases hp' with rfl|rfl|rfl|rfl
   ·exact .inl (.head _)
   ·exact .inl (.tail _ (.head _))
   ·exact .inr (Nat.le_refl _)
   ·exact .inr (Nat.le_succ _)
  ·simp only[List.cons_append,List.nil_append,FR,List.map_nil,List.nodup_cons,FY,FU,or_false,not_or,not_false_eq_true,List.nodup_nil,and_true]
   exact⟨⟨hne.symm,Nat.ne_of_lt l1,Nat.ne_of_lt (Nat.lt_succ_of_lt l1)⟩,⟨Nat.ne_of_lt l2,Nat.ne_of_lt (Nat.lt_succ_of_lt l2)⟩,Nat.ne_of_lt (Nat.lt_succ_self _)⟩
  ·intro b o e hb
   simp only[FR,List.map_nil,FY,not_or]at hb
   exact a6 (Heap.get?_push_of_some _ (Heap.get?_push_of_some _ ((hs.2 b hb.1).trans e)))
  ·rw[Heap.size_push,Heap.size_push,hs.1,hn]
   lia
section
noncomputable def FG(e:Expr)(n y:Nat)(acc:Value)(env:Env)(o:Obj)(b tk:Nat):St:=⟨.compStart e n (.ref (y+937)) acc env,.base,Dq (.compStart e n (.ref (y+937)) acc env),[(y+937,o)],b+937,tk⟩
noncomputable def s8(w:World)(e:Expr)(n y:Nat)(acc:Value)(env:Env)(o:Obj)(k p:Nat):Prop:=∀b tk,
   let q:=go (ag w none) k p (FG e n y acc env o b tk)
   (q.Y&&(cg 0 [0]&&(qq (.compLoop e n (.ref (y+937)) acc env)&&(dC q.S.T&&dM q.S.K))),q.A,ff q.S.T,bu q.S.O [0])=(true,q.B,.compLoop e n (.ref (y+937)) acc env,[(y+937,o)].map some)
section
variable{v:World}{b1 b2 b3:Bool}{L:Nat}{X:Type}{C:X→Prop}{r:X→Result}{post:X→ah}{e:Expr}{n y:Nat}{acc:Value}{env:Env}{rest:ah}{o:Obj}
theorem bC(S:Spec (ay v b1 b2 b3) L none (.compLoop e n (.ref (y+937)) acc env) ([(y+937,o)]++rest) (λ_=>C) r post)
  (h:s8 (ay v b1 b2 b3) e n y acc env o (bif b2 then 1 else 11) (bif b2 then 0 else 17297473)):Spec (ay v b1 b2 b3) L none (.compStart e n (.ref (y+937)) acc env) ([(y+937,o)]++rest) (λ_=>C) r post:=by
 refine aA _ _ λA R d os hb m0 g tk b Z F E=>?_
 have z:=h b tk
 exact ax F E Z _ _ [(y+937,o)] rest [] S [0] (by rw[FK]) (λn' x _ hC=>⟨x,hC,rfl,λ_ h=>h,id⟩) (congrArg (·.1) z) (congrArg (·.2.1) z) (congrArg (·.2.2.1) z) (congrArg (·.2.2.2) z)
theorem mc(S:aR (ay v b1 b2 b3) L none [] (.compLoop e n (.ref (y+937)) acc env) ([(y+937,o)]++rest) (λ_=>C) r post)
  (h:s8 (ay v b1 b2 b3) e n y acc env o (bif b2 then 1 else 11) (bif b2 then 0 else 17297473)):aR (ay v b1 b2 b3) L none [] (.compStart e n (.ref (y+937)) acc env) ([(y+937,o)]++rest) (λ_=>C) r post:=by
 refine aZ _ _ λA R d os hb m0 g tk b outer Z F E N=>?_
 have z:=h b tk
 exact an F E Z N _ _ [(y+937,o)] rest [] S [0] (by rw[FK]) (λ_ _ _=>⟨by trivial,by simp[aK]⟩) (λn' x _ hC=>⟨x,hC,rfl,λ_ h=>h,id⟩) (congrArg (·.1) z) (congrArg (·.2.1) z) (congrArg (·.2.2.1) z) (congrArg (·.2.2.2) z)
end
end
noncomputable abbrev sU(x:Ar):List NV:=[(x.a,x.t),(x.b,x.v)]
noncomputable abbrev Er(P:Params)(q1:Tok)(z1:Value)(o:Option (Tok×Value)):List DictEntry:=de P (u [112,97,105,114]) q1 z1::match o with|none=>[]|some p=>[de P yQ p.1 p.2]
theorem yE{w:World}{ar:Ar}{y ac lo lc ea ec q1:Nat}{z1:Value}{ws:List NV}(o:Option (Tok×Value))(hl:ws.length≤100):
  Spec w 1 none (.compStart jo 1 (.ref (y+937)) (.ref (ac+937)) (fL jo (ku w.params lo) lc)) ([(y+937,bQ (ar.r+937) 0)]++[(ar.r+937,aW [.int (ar.a:Nat) ar.t,.int (ar.b:Nat) ar.v]),(ac+937,aa (ws.map nv) ea),(lc+937,ae (Er w.params q1 z1 o) ec)])
   (X:=Tok×Nat) (λ_ _=>True) (λ_=>.ok .next) (λp=>[(y+937,dk 2),aO ar,(ac+937,aa ((ws++sU ar).map nv) (ea+1+1)),(lc+937,ae (Er w.params q1 z1 (some (p.1,.int (ar.b:Nat) ar.v))) p.2)]):=by
 have hrs:(ws.map nv).length≤sizeLine:=by rw[FQ,sizeLine_eq];lia
 have hrs2:(ws.map nv++[Value.int (ar.a:Nat) ar.t]).length≤sizeLine:=by rw[FZ,FQ,sizeLine_eq];simp only[FT,List.length_nil];lia
 have e3:(ws++sU ar).map nv=(ws.map nv++[Value.int (ar.a:Nat) ar.t])++[Value.int (ar.b:Nat) ar.v]:=by
  rw[FM,FV];rfl
 rw[e3]
 obtain⟨v,b1,b2,b3,rfl⟩:=al w
 refine bC (C:=λ_=>True) ?_ (λb tk=>by refine Bool.rec ?_ ?_ b2<;>kernel_rfl)
 refine ak λA R d os hb m0 g tk b Z F E=>?_
 rcases o with _|⟨q2,z2⟩
 ·
  refine cx (L':=0) (hd':=none) F Z 20 73201155957854273 (af (x:=ac) (ep:=ea) (v:=.int (ar.a:Nat) ar.t) hrs) [2] λ_ m1 kk1 g1 _=>?_
  intro sS
  refine cx (L':=0) (hd':=none) F Z 21 73201155957854273 (af (x:=ac) (ep:=ea+1) (v:=.int (ar.b:Nat) ar.v) hrs2) [2] λ_ m2 kk2 g2 _=>?_
  intro sS
  exact fx F E 17 26458106105921 [0,1,2,3] (tk,ec+1) _ [] [] (FL _) (FK _).symm trivial
 ·
  refine cx (L':=0) (hd':=none) F Z 20 73201155957854273 (af (x:=ac) (ep:=ea) (v:=.int (ar.a:Nat) ar.t) hrs) [2] λ_ m1 kk1 g1 _=>?_
  intro sS
  refine cx (L':=0) (hd':=none) F Z 21 73201155957854273 (af (x:=ac) (ep:=ea+1) (v:=.int (ar.b:Nat) ar.v) hrs2) [2] λ_ m2 kk2 g2 _=>?_
  intro sS
  exact fx F E 17 26458106105921 [0,1,2,3] (q2,ec) _ [] [] (FL _) (FK _).symm trivial
structure E4 where
 i:Nat
 ea:Nat
 ec:Nat
 o:Option ((Tok×Value)×(Tok×Value))
noncomputable abbrev Al(P:Params):Option ((Tok×Value)×(Tok×Value))→List DictEntry
 |none=>[]
 |some p=>Er P p.1.1 p.1.2 (some p.2)
theorem ig{ars:List Ar}{i:Nat}{ar:Ar}(h:ars[i]?=some ar):∃R,(ars.map aO).Perm ([aO ar]++R):=by
 obtain⟨A₁,A₂,rfl⟩:=List.append_of_mem (List.mem_of_getElem? h)
 refine⟨A₁.map aO++A₂.map aO,?_⟩
 rw[FM,FR]
 exact List.perm_middle
theorem xQ{w:World}{x y ac lo lc ep:Nat}{ars:List Ar}:∀(rem:List Ar)(i:Nat)(ws:List NV)(o:Option ((Tok×Value)×(Tok×Value)))(ea ec:Nat),ars.drop i=rem→ws.length+2*rem.length≤100→
  Spec w 2 none (zW w.params y ac lo lc) ([(y+937,ai (x+937) i),(x+937,aa (ars.map bT) ep),(ac+937,aa (ws.map nv) ea),(lc+937,ae (Al w.params o) ec)]++ars.map aO)
   (X:=E4) (λ_ r=>(o.isSome=true∨rem≠[])→r.o.isSome=true) (λ_=>.ok .next) (λr=>[(y+937,av r.i),(x+937,aa (ars.map bT) ep),(ac+937,aa ((ws++rem.flatMap sU).map nv) r.ea),(lc+937,ae (Al w.params r.o) r.ec)]++ars.map aO):=by
 intro rem
 induction rem with
 |nil =>
  intro i ws o ea ec hr hl
  have hx:(ars.map bT)[i]?=none:=by
   rw[List.getElem?_eq_none]
   rw[FQ]
   exact List.drop_eq_nil_iff.mp hr
  rw[List.flatMap_nil,FK]
  refine aA _ _ λA R d os hb m0 g tk b Z F E=>?_
  refine cx (L':=0) (hd':=none) F Z 2 1 (a7 (y:=y) (x:=x) (ep:=ep) (i:=i) hx) [0,1] λnn m1 kk1 g1 _=>?_
  intro sS
  exact fx F E 1 6 [0,1,2,3] ⟨i,ea,ec,o⟩ _ (ars.map aO) [] (by rw[FK]) rfl (λq=>q.elim id λz=>absurd rfl z)
 |cons ar rem ih =>
  intro i ws o ea ec hr hl
  obtain⟨hx0,hr'⟩:=aN hr
  obtain⟨AR,hpu⟩:=ig hx0
  have hx:(ars.map bT)[i]?=some (.ref (ar.r+937)):=by rw[List.getElem?_map,hx0];rfl
  rw[FT]at hl
  have J:=λ(o:Option ((Tok×Value)×(Tok×Value)))(ea ec:Nat)=>ih (i+1) (ws++sU ar) o ea ec hr' (by rw[FZ];simp only[FT,List.length_nil];lia)
  rw[FV]at J
  clear ih
  refine aA _ _ λA R d os hb m0 g tk b Z F E=>?_
  rcases o with _|⟨⟨q1,z1⟩,⟨q2,z2⟩⟩
  ·
   refine cx (L':=0) (hd':=none) F Z 2 1 (am (y:=y) (x:=x) (ep:=ep) (i:=i) hx) [0,1] λ_ m1 kk1 g1 _=>?_
   intro sS
   refine bn [aO ar] _ hpu ?_
   refine cx (L':=1) (hd':=none) F Z 19 26799607398660 (yE (ar:=ar) (y:=m1) (ac:=ac) (lo:=lo) (lc:=lc) (ea:=ea) (ec:=ec+1) (q1:=kk1) (z1:=.ref (ar.r+937)) (ws:=ws) none (by lia)) [5,4,2,3] λp m2 kk2 g2 _=>?_
   intro sS
   refine aw [0,1,2,3] [4] [aO ar] [] (ars.map aO) hpu.symm ?_
   intro sS
   exact ax F E Z 0 0 _ (ars.map aO) [] (J (some ((kk1,.ref (ar.r+937)),(p.1,.int (ar.b:Nat) ar.v))) (ea+1+1) p.2) [0,1,2,3] (by rw[FK]) (λ_ x _ hC=>⟨x,λ_=>hC (.inl rfl),rfl,λ_ h=>h,id⟩)
  ·
   refine cx (L':=0) (hd':=none) F Z 2 1 (am (y:=y) (x:=x) (ep:=ep) (i:=i) hx) [0,1] λ_ m1 kk1 g1 _=>?_
   intro sS
   refine bn [aO ar] _ hpu ?_
   refine cx (L':=1) (hd':=none) F Z 19 26799607398660 (yE (ar:=ar) (y:=m1) (ac:=ac) (lo:=lo) (lc:=lc) (ea:=ea) (ec:=ec) (q1:=q1) (z1:=.ref (ar.r+937)) (ws:=ws) (some (q2,z2)) (by lia)) [5,4,2,3] λp m2 kk2 g2 _=>?_
   intro sS
   refine aw [0,1,2,3] [4] [aO ar] [] (ars.map aO) hpu.symm ?_
   intro sS
   exact ax F E Z 0 0 _ (ars.map aO) [] (J (some ((q1,.ref (ar.r+937)),(p.1,.int (ar.b:Nat) ar.v))) (ea+1+1) p.2) [0,1,2,3] (by rw[FK]) (λ_ x _ hC=>⟨x,λ_=>hC (.inl rfl),rfl,λ_ h=>h,id⟩)
structure AT where
 i:Nat
 ea:Nat
 ec:Nat
 o:(Tok×Value)×(Tok×Value)
theorem vQ{w:World}{x y ac lo lc ep:Nat}{ars:List Ar}(hl:2*ars.length≤100)(hne:ars≠[]):
  Spec w 2 none (xP w.params y ac lo lc) ([(y+937,ai (x+937) 0),(x+937,aa (ars.map bT) ep),(ac+937,aa ([].map nv) 0),(lc+937,ae (Al w.params none) 0)]++ars.map aO)
   (X:=AT) (λ_ _=>True) (λ_=>.ok .next) (λr=>[(y+937,av r.i),(x+937,aa (ars.map bT) ep),(ac+937,aa ((ars.flatMap sU).map nv) r.ea),(lc+937,ae (Al w.params (some r.o)) r.ec)]++ars.map aO):=by
 have S:=xQ (w:=w) (x:=x) (y:=y) (ac:=ac) (lo:=lo) (lc:=lc) (ep:=ep) ars 0 [] none 0 0 rfl (by rw[List.length_nil];lia)
 obtain⟨v,b1,b2,b3,rfl⟩:=al w
 have z:=bC (C:=λr:E4=>((none:Option ((Tok×Value)×(Tok×Value))).isSome=true∨ars≠[])→r.o.isSome=true) (o:=ai (x+937) 0) S (λb tk=>by refine Bool.rec ?_ ?_ b2<;>kernel_rfl)
 refine z.convP (Nat.le_refl _) (FL _) λn r hC=>?_
 obtain⟨i,ea,ec,o⟩:=r
 obtain⟨oo,rfl⟩:=Option.isSome_iff_exists.mp (hC (.inr hne))
 exact⟨⟨i,ea,ec,oo⟩,trivial,rfl,FL _⟩
section
noncomputable abbrev LV:=List (Nat×NV)
noncomputable def fN(L:LV):List (Int×Value):=L.map λp=>((p.1:Int),nv p.2)
noncomputable def sf:LV→Nat→Option NV
 |[],_=>none
 |p::L,k=>if p.1=k then some p.2 else sf L k
noncomputable def rp:LV→Nat→NV→LV
 |[],k,v=>[(k,v)]
 |p::L,k,v=>if p.1=k then(p.1,v)::L else p::rp L k v
noncomputable abbrev IK(w:World):KeyKind pw w Int:=intKind pw w
theorem mi(L:LV)(k:Nat):valueAt (fN L) (k:Int)=(sf L k).map nv:=by
 unfold valueAt fN
 induction L with
 |nil=>rfl
 |cons p L ih =>
  rw[FR,List.find?_cons]
  by_cases h:p.1=k
  ·rw[show(decide ((p.1:Int)=(k:Int)))=true by rw[decide_eq_true_eq];lia]
   rw[sf,if_pos h];rfl
  ·rw[show(decide ((p.1:Int)=(k:Int)))=false by rw[decide_eq_false_iff_not];lia]
   rw[sf,if_neg h];exact ih
theorem wQ{L:LV}{k:Nat}:(∀p∈L,p.1≠k)→∀v,rp L k v=L++[(k,v)]:=by
 induction L with
 |nil=>exactλ_ _=>rfl
 |cons p L ih =>
  intro h v
  rw[rp,if_neg (h p (.head _)),ih (λq hq=>h q (.tail _ hq))];rfl
theorem vy(L:LV)(k:Nat)(v:NV)(hn:(L.map (·.1)).Nodup):stored (fN L) (k:Int) (nv v)=fN (rp L k v):=by
 have hany:∀M:LV,(fN M).any (λkv=>decide (kv.1=(k:Int)))=M.any (λp=>decide (p.1=k)):=λM=>by
  unfold fN
  rw[List.any_map]
  congr 1
  funext p
  show decide ((p.1:Int)=(k:Int))=decide (p.1=k)
  by_cases h:p.1=k
  ·rw[decide_eq_true h,decide_eq_true (by lia)]
  ·rw[decide_eq_false h,decide_eq_false (by lia)]
 have hmap:∀M:LV,(∀p∈M,p.1≠k)→(fN M).map (λkv=>if kv.1=(k:Int)then(kv.1,nv v)else kv)=fN M:=λM hM=>by
  unfold fN
  rw[List.map_map]
  refine List.map_congr_left λp hp=>?_
  show(if(p.1:Int)=(k:Int)then _ else _)=_
  rw[if_neg (by have:=hM p hp;lia)]
 unfold stored
 rw[hany]
 by_cases h:L.any (λp=>decide (p.1=k))=true
 ·rw[if_pos h]
  induction L with
  |nil=>cases h
  |cons p L ih =>
   rw[FR,List.nodup_cons]at hn
   show(if(p.1:Int)=(k:Int)then((p.1:Int),nv v)else((p.1:Int),nv p.2))::(fN L).map _=_
   by_cases hp:p.1=k
   ·rw[if_pos (by lia),rp,if_pos hp,hmap L λq hq e=>hn.1 (hp▸e▸FP hq)]
    rfl
   ·rw[if_neg (by lia),rp,if_neg hp]
    rw[List.any_cons,decide_eq_false hp,Bool.false_or]at h
    rw[ih hn.2 h]
    rfl
 ·rw[if_neg h]
  have hL:∀p∈L,p.1≠k:=λp hp e=>h (List.any_eq_true.mpr ⟨p,hp,by rw[decide_eq_true_eq];exact e⟩)
  rw[wQ hL]
  unfold fN
  rw[FM];rfl
theorem xB(L:LV)(k:Nat)(v:NV):(rp L k v).map (·.1)=if k∈L.map (·.1)then L.map (·.1)else L.map (·.1)++[k]:=by
 induction L with
 |nil=>rfl
 |cons p L ih =>
  rw[rp]
  by_cases h:p.1=k
  ·rw[if_pos h,if_pos (by rw[FR,h];exact .head _)];rfl
  ·rw[if_neg h,FR,ih,FR]
   by_cases hk:k∈L.map (·.1)
   ·rw[if_pos hk,if_pos (.tail _ hk)]
   ·rw[if_neg hk,if_neg (by rw[FY];exactλe=>e.elim (λe=>h e.symm) hk)];rfl
theorem dS{L:LV}(h:((fN L).map (·.1)).Nodup):(L.map (·.1)).Nodup:=by
 unfold fN at h
 rw[List.map_map]at h
 have:((L.map (·.1)).map (λn:Nat=>(n:Int))).Nodup:=by rw[List.map_map];exact h
 exact(List.pairwise_map.mp this).imp λh e=>h (congrArg _ e)
theorem pF{w:World}(k:Nat)(t:Tok):(IK w).is (k:Int) (.int (k:Nat) t)=true:=by
 show Value.isInt (k:Int) (.int (k:Nat) t)=true
 simp[Value.isInt]
section
variable{w:World}{es:List DictEntry}{L:LV}{l:Nat}{hd:Option Value}{x ep k:Nat}{t:Tok}
theorem j7{v:Value}(h:KV (IK w) es (fN L)):Spec w l hd (.call (.builtin "dict.get") ⟨[.ref (x+937),.int (k:Nat) t,v],[]⟩) [(x+937,ae es ep)] (X:=Unit) (λ_ _=>True) (λ_=>.ok (.ret (((sf L k).map nv).getD v))) (λ_=>[(x+937,ae es ep)]):=
 aq F.slot_dict_get F.entry_dict_get (F.args_dict_get_3 _ _ _) (meets_dict_get_default (IK w) (x+937) (pF k t) (nh x) v) λA hp g d tk os hA hst hpre nd=>
  have hd:=h.dictOf (ep:=ep) hpre
  ⟨hd.mapOf.typeIs,_,hd.mapOf,cz () (by rw[mi]) trivial rfl hpre nd⟩
theorem cD{v:NV}(h:KV (IK w) es (fN L))(hv:sf L k=some v):Spec w l hd (.call (.builtin "dict.__getitem__") ⟨[.ref (x+937),.int (k:Nat) t],[]⟩) [(x+937,ae es ep)] (X:=Unit) (λ_ _=>True) (λ_=>.ok (.ret (nv v))) (λ_=>[(x+937,ae es ep)]):=
 bl h (pF k t) (by rw[mi,hv];rfl)
theorem pz{v:NV}(h:KV (IK w) es (fN L))(hl:L.length≤100):Spec w l hd (.call (.builtin "dict.__setitem__") ⟨[.ref (x+937),.int (k:Nat) t,nv v],[]⟩) [(x+937,ae es ep)] (X:=List DictEntry×Nat) (λ_ y=>KV (IK w) y.1 (fN (rp L k v))) (λ_=>.ok (.ret .none)) (λy=>[(x+937,ae y.1 y.2)]):=by
 have z:=dx (L:=l) (hd:=hd) (x:=x) (ep:=ep) (v:=nv v) h (pF k t) (by unfold fN;rw[FQ,sizeLine_eq];lia)
 rw[vy L k v (dS h.2.2)]at z
 exact z
theorem mS(h:KV (IK w) es (fN L)){i:Nat}{p:Nat×NV}(hg:L[i]?=some p):∃e,es[i]?=some e∧e.val=nv p.2∧∃t,e.key=.int (p.1:Nat) t:=by
 have hk:(fN L)[i]?=some ((p.1:Int),nv p.2):=by unfold fN;rw[List.getElem?_map,hg];rfl
 have hl:es.length=(fN L).length:=by have:=h.2.1.length;simpa using this
 have hi:i<es.length:=by rw[hl];exact(List.getElem?_eq_some_iff.mp hk).1
 have he:es[i]?=some es[i]:=List.getElem?_eq_getElem hi
 obtain⟨h1,h2⟩:=Pairs.get? h.2.1 he hk
 obtain⟨t,ht⟩:=Value.isInt_shape h1
 exact⟨es[i],he,h2,t,ht⟩
theorem qL(h:KV (IK w) es (fN L)):es.length=L.length:=by
 have:=h.2.1.length
 unfold fN at this
 rw[FQ]at this
 exact this
end
end
noncomputable def Ak(L:LV)(b:Nat):Nat:=match sf L b with|some p=>p.1|none=>0
noncomputable def dN(L:LV)(a0:Nat):List Ar→List Nat
 |[]=>[]
 |x::r=>if x.a=a0 then(Ak L x.b+1)::dN L a0 r else dN L a0 r
theorem uh(L:LV)(b:Nat)(t:Tok):∃p:NV,p.1=Ak L b∧((sf L b).map nv).getD (.int 0 t)=nv p:=by
 unfold Ak
 cases sf L b with
 |none=>exact⟨(0,t),rfl,rfl⟩
 |some q=>exact⟨q,rfl,rfl⟩
structure Es where
 i:Nat
 vs:List NV
 ea:Nat
 ec:Nat
 o:Option ((Tok×Value)×(Tok×Value))
noncomputable abbrev AW(P:Params):Option ((Tok×Value)×(Tok×Value))→List DictEntry
 |none=>[]
 |some p=>[de P (u [111,110,101]) p.1.1 p.1.2,de P CM p.2.1 p.2.2]
theorem wg{w:World}{x y ac lo lc ep a0 tw dz ed:Nat}{ars:List Ar}{es:List DictEntry}{L:LV}(hkv:KV (IK w) es (fN L)):∀(rem:List Ar)(i:Nat)(vs:List NV)(o:Option ((Tok×Value)×(Tok×Value)))(ea ec:Nat),ars.drop i=rem→vs.length+rem.length≤100→
  Spec w 1 none (y7 w.params y ac lo lc) ([(y+937,ai (x+937) i),(x+937,aa (ars.map bT) ep),(ac+937,aa (vs.map nv) ea),(lc+937,ae (AW w.params o) ec),(lo+1+937,aC (some (.int (a0:Nat) tw))),(lo+2+937,aC (some (.ref (dz+937)))),(dz+937,ae es ed)]++ars.map aO)
   (X:=Es) (λ_ r=>r.vs.map (·.1)=vs.map (·.1)++dN L a0 rem∧((o.isSome=true∨rem≠[])→r.o.isSome=true)) (λ_=>.ok .next) (λr=>[(y+937,av r.i),(x+937,aa (ars.map bT) ep),(ac+937,aa (r.vs.map nv) r.ea),(lc+937,ae (AW w.params r.o) r.ec),(lo+1+937,aC (some (.int (a0:Nat) tw))),(lo+2+937,aC (some (.ref (dz+937)))),(dz+937,ae es ed)]++ars.map aO):=by
 intro rem
 induction rem with
 |nil =>
  intro i vs o ea ec hr hl
  have hx:(ars.map bT)[i]?=none:=by
   rw[List.getElem?_eq_none]
   rw[FQ]
   exact List.drop_eq_nil_iff.mp hr
  refine aA _ _ λA R d os hb m0 g tk b Z F E=>?_
  refine cx (L':=0) (hd':=none) F Z 2 1 (a7 (y:=y) (x:=x) (ep:=ep) (i:=i) hx) [0,1] λnn m1 kk1 g1 _=>?_
  intro sS
  exact fx F E 1 9 [0,1,2,3,4,5,6] ⟨i,vs,ea,ec,o⟩ _ (ars.map aO) [] (by rw[FK]) rfl ⟨(FK _).symm,λq=>q.elim id λz=>absurd rfl z⟩
 |cons ar rem ih =>
  intro i vs o ea ec hr hl
  obtain⟨hx0,hr'⟩:=aN hr
  obtain⟨AR,hpu⟩:=ig hx0
  have hx:(ars.map bT)[i]?=some (.ref (ar.r+937)):=by rw[List.getElem?_map,hx0];rfl
  rw[FT]at hl
  have hrs:(vs.map nv).length≤sizeLine:=by rw[FQ,sizeLine_eq];lia
  have Jf:=λ(o:Option ((Tok×Value)×(Tok×Value)))(ea ec:Nat)=>ih (i+1) vs o ea ec hr' (by lia)
  have Jt:=λ(p:NV)(o:Option ((Tok×Value)×(Tok×Value)))(ea ec:Nat)=>ih (i+1) (vs++[p]) o ea ec hr' (by rw[FZ];simp only[FT,List.length_nil];lia)
  have em:∀p:NV,(vs++[p]).map nv=vs.map nv++[nv p]:=λp=>FM
  clear ih
  refine aA _ _ λA R d os hb m0 g tk b Z F E=>?_
  cases hc:((ar.a:Nat):Int)==((a0:Nat):Int)
  ·have hn:¬ar.a=a0:=λe=>by rw[e]at hc;simp at hc
   have hz:aL (((ar.a:Nat):Int)==((a0:Nat):Int))=aL false:=by rw[hc]
   have HH:dN L a0 (ar::rem)=dN L a0 rem:=if_neg hn
   rw[HH]at E
   rcases o with _|⟨⟨q1,z1⟩,⟨q2,z2⟩⟩
   ·
    refine cx (L':=0) (hd':=none) F Z 2 1 (am (y:=y) (x:=x) (ep:=ep) (i:=i) hx) [0,1] λ_ m1 kk1 g1 _=>?_
    intro sS
    refine bn [aO ar] _ hpu ?_
    refine sx F 69 0xfc510410410b24920924924924824924924920924924923f208201 (by kernel_rfl) (by kernel_rfl) (aL (((ar.a:Nat):Int)==((a0:Nat):Int))) (aL false) (by kernel_rfl) (hz) ?_
    refine da F 1 0 ?_
    intro sS
    refine aw [0,1,2,3,4,5,6] [7] [aO ar] [] (ars.map aO) hpu.symm ?_
    intro sS
    exact ax F E Z 0 0 _ (ars.map aO) [] (Jf (some ((kk1,.int (ar.a:Nat) ar.t),(kk1+1,.int (ar.b:Nat) ar.v))) ea (ec+2)) [0,1,2,3,4,5,6] (by rw[FK]) (λ_ x _ hC=>⟨x,⟨hC.1,λ_=>hC.2 (.inl rfl)⟩,rfl,λ_ h=>h,id⟩)
   ·
    refine cx (L':=0) (hd':=none) F Z 2 1 (am (y:=y) (x:=x) (ep:=ep) (i:=i) hx) [0,1] λ_ m1 kk1 g1 _=>?_
    intro sS
    refine bn [aO ar] _ hpu ?_
    refine sx F 69 0xfc510410410b24920924924924824924924920924924923f208201 (by kernel_rfl) (by kernel_rfl) (aL (((ar.a:Nat):Int)==((a0:Nat):Int))) (aL false) (by kernel_rfl) (hz) ?_
    refine da F 1 0 ?_
    intro sS
    refine aw [0,1,2,3,4,5,6] [7] [aO ar] [] (ars.map aO) hpu.symm ?_
    intro sS
    exact ax F E Z 0 0 _ (ars.map aO) [] (Jf (some ((q1,.int (ar.a:Nat) ar.t),(q2,.int (ar.b:Nat) ar.v))) ea ec) [0,1,2,3,4,5,6] (by rw[FK]) (λ_ x _ hC=>⟨x,⟨hC.1,λ_=>hC.2 (.inl rfl)⟩,rfl,λ_ h=>h,id⟩)
  ·have hy:ar.a=a0:=by have:=eq_of_beq hc;lia
   have hz:aL (((ar.a:Nat):Int)==((a0:Nat):Int))=aL true:=by rw[hc]
   have HH:dN L a0 (ar::rem)=(Ak L ar.b+1)::dN L a0 rem:=if_pos hy
   rw[HH]at E
   rcases o with _|⟨⟨q1,z1⟩,⟨q2,z2⟩⟩
   ·
    refine cx (L':=0) (hd':=none) F Z 2 1 (am (y:=y) (x:=x) (ep:=ep) (i:=i) hx) [0,1] λ_ m1 kk1 g1 _=>?_
    intro sS
    refine bn [aO ar] _ hpu ?_
    refine sx F 69 0xfc510410410b24920924924924824924924920924924923f208201 (by kernel_rfl) (by kernel_rfl) (aL (((ar.a:Nat):Int)==((a0:Nat):Int))) (aL true) (by kernel_rfl) (hz) ?_
    refine cx (L':=0) (hd':=none) F Z 13 4414271942 (j7 (x:=dz) (ep:=ed) (k:=ar.b) (t:=ar.v) (v:=.int 0 (kk1+2)) hkv) [6] λ_ m2 kk2 g2 _=>?_
    show Gd _ _
    obtain⟨p,hp1,hp2⟩:=uh L ar.b (kk1+2)
    rw[hp2]
    refine cx (L':=0) (hd':=none) F Z 7 0 (af (x:=ac) (ep:=ea) (v:=nv (p.1+1,kk2+1)) hrs) [2] λ_ m3 kk3 g3 _=>?_
    intro sS
    refine da F 0 0 ?_
    intro sS
    refine aw [0,1,2,3,4,5,6] [7] [aO ar] [] (ars.map aO) hpu.symm ?_
    intro sS
    have z:=Jt (p.1+1,kk2+1) (some ((kk1,.int (ar.a:Nat) ar.t),(kk1+1,.int (ar.b:Nat) ar.v))) (ea+1) (ec+2)
    rw[em]at z
    exact ax F E Z 0 0 _ (ars.map aO) [] z [0,1,2,3,4,5,6] (by rw[FK]) (λ_ x _ hC=>⟨x,⟨hC.1.trans (by rw[FM,FV,←hp1];rfl),λ_=>hC.2 (.inl rfl)⟩,rfl,λ_ h=>h,id⟩)
   ·
    refine cx (L':=0) (hd':=none) F Z 2 1 (am (y:=y) (x:=x) (ep:=ep) (i:=i) hx) [0,1] λ_ m1 kk1 g1 _=>?_
    intro sS
    refine bn [aO ar] _ hpu ?_
    refine sx F 69 0xfc510410410b24920924924924824924924920924924923f208201 (by kernel_rfl) (by kernel_rfl) (aL (((ar.a:Nat):Int)==((a0:Nat):Int))) (aL true) (by kernel_rfl) (hz) ?_
    refine cx (L':=0) (hd':=none) F Z 13 4414271942 (j7 (x:=dz) (ep:=ed) (k:=ar.b) (t:=ar.v) (v:=.int 0 (kk1+2)) hkv) [6] λ_ m2 kk2 g2 _=>?_
    show Gd _ _
    obtain⟨p,hp1,hp2⟩:=uh L ar.b (kk1+2)
    rw[hp2]
    refine cx (L':=0) (hd':=none) F Z 7 0 (af (x:=ac) (ep:=ea) (v:=nv (p.1+1,kk2+1)) hrs) [2] λ_ m3 kk3 g3 _=>?_
    intro sS
    refine da F 0 0 ?_
    intro sS
    refine aw [0,1,2,3,4,5,6] [7] [aO ar] [] (ars.map aO) hpu.symm ?_
    intro sS
    have z:=Jt (p.1+1,kk2+1) (some ((q1,.int (ar.a:Nat) ar.t),(q2,.int (ar.b:Nat) ar.v))) (ea+1) ec
    rw[em]at z
    exact ax F E Z 0 0 _ (ars.map aO) [] z [0,1,2,3,4,5,6] (by rw[FK]) (λ_ x _ hC=>⟨x,⟨hC.1.trans (by rw[FM,FV,←hp1];rfl),λ_=>hC.2 (.inl rfl)⟩,rfl,λ_ h=>h,id⟩)
structure z7 where
 i:Nat
 vs:List NV
 ea:Nat
 ec:Nat
 o:(Tok×Value)×(Tok×Value)
theorem tu{w:World}{x y ac lo lc ep a0 tw dz ed:Nat}{ars:List Ar}{es:List DictEntry}{L:LV}(hkv:KV (IK w) es (fN L))(hl:ars.length≤100)(hne:ars≠[]):
  Spec w 1 none (wf w.params y ac lo lc) ([(y+937,ai (x+937) 0),(x+937,aa (ars.map bT) ep),(ac+937,aa ([].map nv) 0),(lc+937,ae (AW w.params none) 0),(lo+1+937,aC (some (.int (a0:Nat) tw))),(lo+2+937,aC (some (.ref (dz+937)))),(dz+937,ae es ed)]++ars.map aO)
   (X:=z7) (λ_ r=>r.vs.map (·.1)=dN L a0 ars) (λ_=>.ok .next) (λr=>[(y+937,av r.i),(x+937,aa (ars.map bT) ep),(ac+937,aa (r.vs.map nv) r.ea),(lc+937,ae (AW w.params (some r.o)) r.ec),(lo+1+937,aC (some (.int (a0:Nat) tw))),(lo+2+937,aC (some (.ref (dz+937)))),(dz+937,ae es ed)]++ars.map aO):=by
 have S:=wg (w:=w) (x:=x) (y:=y) (ac:=ac) (lo:=lo) (lc:=lc) (ep:=ep) (a0:=a0) (tw:=tw) (dz:=dz) (ed:=ed) hkv ars 0 [] none 0 0 rfl (by rw[List.length_nil];lia)
 obtain⟨v,b1,b2,b3,rfl⟩:=al w
 have z:=bC (C:=λr:Es=>r.vs.map (·.1)=[]++dN L a0 ars∧(((none:Option ((Tok×Value)×(Tok×Value))).isSome=true∨ars≠[])→r.o.isSome=true)) (o:=ai (x+937) 0) S (λb tk=>by refine Bool.rec ?_ ?_ b2<;>kernel_rfl)
 refine z.convP (Nat.le_refl _) (FL _) λn r hC=>?_
 obtain⟨i,vs,ea,ec,o⟩:=r
 obtain⟨oo,rfl⟩:=Option.isSome_iff_exists.mp (hC.2 (.inr hne))
 exact⟨⟨i,vs,ea,ec,oo⟩,hC.1,rfl,FL _⟩
noncomputable def dD(q:Nat):List Nat→Nat
 |[]=>q
 |p::r=>dD (if p>q then p else q) r
noncomputable abbrev rS(d:Addr):Obj:=⟨.type "dict_values",none,.fields ⟨[.ref d]⟩,⟨[]⟩⟩
noncomputable abbrev Co(y a:Nat):Code:=.builtin "max.loop" ⟨[.ref (y+937),.none,.ref (a+937)],[]⟩
theorem uy{w:World}{x y a ep:Nat}{vs:List NV}:∀(rem:List (NV))(j:Nat)(q:NV)(eb:Nat),vs.drop j=rem→
  Spec w 1 none (Co y a) [(y+937,ai (x+937) j),(x+937,aa (vs.map nv) ep),(a+937,aa [nv q,nv q] eb)]
   (X:=NV×Nat) (λ_ r=>r.1.1=dD q.1 (rem.map (·.1))) (λr=>.ok (.ret (nv r.1))) (λr=>[(y+937,av r.2),(x+937,aa (vs.map nv) ep)]):=by
 intro rem
 induction rem with
 |nil =>
  intro j q eb hr
  have hx:(vs.map nv)[j]?=none:=by
   rw[List.getElem?_eq_none]
   rw[FQ]
   exact List.drop_eq_nil_iff.mp hr
  refine ak λA R d os hb m0 g tk b Z F E=>?_
  refine cx (L':=0) (hd':=none) F Z 2 67 (a7 (y:=y) (x:=x) (ep:=ep) (i:=j) hx) [0,1] λnn m1 kk1 g1 _=>?_
  intro sS
  exact fx F E 5 798917 [0,1] (q,j) _ [] [] (FL _) (FK _).symm rfl
 |cons p rem ih =>
  intro j q eb hr
  obtain⟨hx0,hr'⟩:=aN hr
  have hx:(vs.map nv)[j]?=some (nv p):=by rw[List.getElem?_map,hx0];rfl
  have Jf:=λ(eb:Nat)=>ih (j+1) q eb hr'
  have Jt:=λ(eb:Nat)=>ih (j+1) p eb hr'
  clear ih
  refine ak λA R d os hb m0 g tk b Z F E=>?_
  cases hc:decide ((p.1:Int)>(q.1:Int))
  ·have hz:aL (decide ((p.1:Int)>(q.1:Int)))=aL false:=by rw[hc]
   have hm:dD q.1 ((p::rem).map (·.1))=dD q.1 (rem.map (·.1)):=by
    show dD (if p.1>q.1 then _ else _) _=_
    rw[if_neg (by have:=of_decide_eq_false hc;lia)]
   rw[hm]at E
   refine cx (L':=0) (hd':=none) F Z 2 67 (am (y:=y) (x:=x) (ep:=ep) (i:=j) hx) [0,1] λ_ m1 kk1 g1 _=>?_
   intro sS
   refine sx F 3 63 (by kernel_rfl) (by kernel_rfl) (aL (decide ((p.1:Int)>(q.1:Int)))) (aL false) (by kernel_rfl) (hz) ?_
   exact dc F E Z 4 0 (Jf eb) [0,1,2] (λ_ _ _ h=>h)
  ·have hz:aL (decide ((p.1:Int)>(q.1:Int)))=aL true:=by rw[hc]
   have hm:dD q.1 ((p::rem).map (·.1))=dD p.1 (rem.map (·.1)):=by
    show dD (if p.1>q.1 then _ else _) _=_
    rw[if_pos (by have:=of_decide_eq_true hc;lia)]
   rw[hm]at E
   refine cx (L':=0) (hd':=none) F Z 2 67 (am (y:=y) (x:=x) (ep:=ep) (i:=j) hx) [0,1] λ_ m1 kk1 g1 _=>?_
   intro sS
   refine sx F 3 63 (by kernel_rfl) (by kernel_rfl) (aL (decide ((p.1:Int)>(q.1:Int)))) (aL true) (by kernel_rfl) (hz) ?_
   exact dc F E Z 7 12483 (Jt eb) [0,1,2] (λ_ _ _ h=>h)
theorem ux{w:World}{x ep:Nat}{vs:List NV}{p:NV}{rem:List (NV)}(hp:vs=p::rem):Spec w 1 none (.call (.builtin "max") ⟨[.ref (x+937)],[]⟩) [(x+937,aa (vs.map nv) ep)]
   (X:=NV×Nat) (λ_ r=>r.1.1=dD p.1 (rem.map (·.1))) (λr=>.ok (.ret (nv r.1))) (λr=>[(x+937,aa (vs.map nv) ep)]++[]):=by
 have hx0:vs[0]?=some p:=by rw[hp];rfl
 have hr':vs.drop 1=rem:=by rw[hp];rfl
 have hx:(vs.map nv)[0]?=some (nv p):=by rw[List.getElem?_map,hx0];rfl
 have I:=λy a eb=>uy (w:=w) (x:=x) (y:=y) (a:=a) (ep:=ep) (vs:=vs) rem 1 p eb hr'
 have S:∀y a,Spec w 1 none (Co y a) [(y+937,ai (x+937) 0),(x+937,aa (vs.map nv) ep),(a+937,aa [] 0)]
   (X:=NV×Nat) (λ_ r=>r.1.1=dD p.1 (rem.map (·.1))) (λr=>.ok (.ret (nv r.1))) (λr=>[(y+937,av r.2),(x+937,aa (vs.map nv) ep)]):=λy a=>by
  refine ak λA R d os hb m0 g tk b Z F E=>?_
  refine cx (L':=0) (hd':=none) F Z 2 67 (am (y:=y) (x:=x) (ep:=ep) (i:=0) hx) [0,1] λ_ m1 kk1 g1 _=>?_
  intro sS
  exact dc F E Z 3 12483 (I y a 1) [0,1,2] (λ_ _ _ h=>h)
 refine ak λA R d os hb m0 g tk b Z F E=>?_
 exact ax F E Z 11 34074689 [(b+937,ai (x+937) 0),(x+937,aa (vs.map nv) ep),(b+1+937,aa [] 0)] [] [] (S b (b+1)) [1,0,2] (FL _) (λ_ r _ hC=>⟨r,hC,rfl,λp h=>.tail _ h,λh=>(List.nodup_cons.mp h).2⟩)
theorem si{w:World}{x y a ep:Nat}{es:List DictEntry}{L:LV}(hkv:KV (IK w) es (fN L)):∀(rem:List (Nat×NV))(j:Nat)(q:NV)(eb:Nat),L.drop j=rem→
  Spec w 1 none (Co y a) [(y+937,bR (x+937) j es.length ep),(x+937,ae es ep),(a+937,aa [nv q,nv q] eb)]
   (X:=NV×Nat) (λ_ r=>r.1.1=dD q.1 ((rem.map (·.2)).map (·.1))) (λr=>.ok (.ret (nv r.1))) (λr=>[(y+937,d9 r.2 es.length ep),(x+937,ae es ep)]):=by
 intro rem
 induction rem with
 |nil =>
  intro j q eb hr
  have hx:es[j]?=none:=by
   rw[List.getElem?_eq_none]
   rw[qL hkv]
   exact List.drop_eq_nil_iff.mp hr
  refine ak λA R d os hb m0 g tk b Z F E=>?_
  refine cx (L':=0) (hd':=none) F Z 2 67 (tE (y:=y) (x:=x) (ep:=ep) hx) [0,1] λnn m1 kk1 g1 _=>?_
  intro sS
  exact fx F E 5 798917 [0,1] (q,j) _ [] [] (FL _) (FK _).symm rfl
 |cons p rem ih =>
  intro j q eb hr
  obtain⟨hx0,hr'⟩:=aN hr
  obtain⟨en,hx,hv,_⟩:=mS hkv hx0
  have Jf:=λ(eb:Nat)=>ih (j+1) q eb hr'
  have Jt:=λ(eb:Nat)=>ih (j+1) p.2 eb hr'
  clear ih
  refine ak λA R d os hb m0 g tk b Z F E=>?_
  cases hc:decide ((p.2.1:Int)>(q.1:Int))
  ·have hz:aL (decide ((p.2.1:Int)>(q.1:Int)))=aL false:=by rw[hc]
   have hm:dD q.1 (((p::rem).map (·.2)).map (·.1))=dD q.1 ((rem.map (·.2)).map (·.1)):=by
    show dD (if p.2.1>q.1 then _ else _) _=_
    rw[if_neg (by have:=of_decide_eq_false hc;lia)]
   rw[hm]at E
   refine cx (L':=0) (hd':=none) F Z 2 67 (fi (y:=y) (x:=x) (ep:=ep) (i:=j) hx) [0,1] λ_ m1 kk1 g1 _=>?_
   show Gd _ _
   rw[hv]
   refine sx F 3 63 (by kernel_rfl) (by kernel_rfl) (aL (decide ((p.2.1:Int)>(q.1:Int)))) (aL false) (by kernel_rfl) (hz) ?_
   exact dc F E Z 4 0 (Jf eb) [0,1,2] (λ_ _ _ h=>h)
  ·have hz:aL (decide ((p.2.1:Int)>(q.1:Int)))=aL true:=by rw[hc]
   have hm:dD q.1 (((p::rem).map (·.2)).map (·.1))=dD p.2.1 ((rem.map (·.2)).map (·.1)):=by
    show dD (if p.2.1>q.1 then _ else _) _=_
    rw[if_pos (by have:=of_decide_eq_true hc;lia)]
   rw[hm]at E
   refine cx (L':=0) (hd':=none) F Z 2 67 (fi (y:=y) (x:=x) (ep:=ep) (i:=j) hx) [0,1] λ_ m1 kk1 g1 _=>?_
   show Gd _ _
   rw[hv]
   refine sx F 3 63 (by kernel_rfl) (by kernel_rfl) (aL (decide ((p.2.1:Int)>(q.1:Int)))) (aL true) (by kernel_rfl) (hz) ?_
   exact dc F E Z 7 12483 (Jt eb) [0,1,2] (λ_ _ _ h=>h)
theorem uz{w:World}{x z ep:Nat}{es:List DictEntry}{L:LV}(hkv:KV (IK w) es (fN L)){p:Nat×NV}{rem:List (Nat×NV)}(hp:L=p::rem):Spec w 1 none (.call (.builtin "max") ⟨[.ref (z+937)],[]⟩) [(z+937,rS (x+937)),(x+937,ae es ep)]
   (X:=NV×Nat) (λ_ r=>r.1.1=dD p.2.1 ((rem.map (·.2)).map (·.1))) (λr=>.ok (.ret (nv r.1))) (λr=>[(z+937,rS (x+937)),(x+937,ae es ep)]++[]):=by
 have hx0:L[0]?=some p:=by rw[hp];rfl
 have hr':L.drop 1=rem:=by rw[hp];rfl
 obtain⟨en,hx,hv,_⟩:=mS hkv hx0
 have I:=λy a eb=>si (w:=w) (x:=x) (y:=y) (a:=a) (ep:=ep) hkv rem 1 p.2 eb hr'
 have S:∀y a,Spec w 1 none (Co y a) [(y+937,bR (x+937) 0 es.length ep),(x+937,ae es ep),(a+937,aa [] 0)]
   (X:=NV×Nat) (λ_ r=>r.1.1=dD p.2.1 ((rem.map (·.2)).map (·.1))) (λr=>.ok (.ret (nv r.1))) (λr=>[(y+937,d9 r.2 es.length ep),(x+937,ae es ep)]):=λy a=>by
  refine ak λA R d os hb m0 g tk b Z F E=>?_
  refine cx (L':=0) (hd':=none) F Z 2 67 (fi (y:=y) (x:=x) (ep:=ep) (i:=0) hx) [0,1] λ_ m1 kk1 g1 _=>?_
  show Gd _ _
  rw[hv]
  exact dc F E Z 3 12483 (I y a 1) [0,1,2] (λ_ _ _ h=>h)
 refine ak λA R d os hb m0 g tk b Z F E=>?_
 refine da F 14 0xc208107f041 ?_
 intro sS
 refine aw [2,1,3] [0] [(z+937,rS (x+937))] [] [(z+937,rS (x+937))] (FL _) ?_
 intro sS
 refine ax F E Z 0 0 [(b+937,bR (x+937) 0 es.length ep),(x+937,ae es ep),(b+1+937,aa [] 0)] [(z+937,rS (x+937))] [] ((S b (b+1)).frame [(z+937,rS (x+937))]) [0,1,2] (FL _) (λ_ r _ hC=>⟨r,hC,rfl,λp h=>?_,λh=>?_⟩)
 ·simp only[FK,List.cons_append,List.nil_append,FY,FU,or_false]at h⊢
  rcases h with h|h
  ·exact .inr (.inr h)
  ·exact .inr (.inl h)
 ·simp only[FK,List.cons_append,List.nil_append,FR,List.map_nil,List.nodup_cons,FY,FU,or_false,not_or,not_false_eq_true,List.nodup_nil,and_true]at h⊢
  exactλe=>h.2 e.symm
noncomputable abbrev PL:=List (Nat×Nat)
noncomputable def e9(L:LV):PL:=L.map λp=>(p.1,p.2.1)
noncomputable def lk:PL→Nat→Nat
 |[],_=>0
 |p::L,k=>if p.1=k then p.2 else lk L k
noncomputable def rq:PL→Nat→Nat→PL
 |[],k,v=>[(k,v)]
 |p::L,k,v=>if p.1=k then(p.1,v)::L else p::rq L k v
noncomputable def fR(M:PL)(a0:Nat):List Ar→List Nat
 |[]=>[]
 |x::r=>if x.a=a0 then(lk M x.b+1)::fR M a0 r else fR M a0 r
noncomputable def gZ:List Nat→Nat
 |[]=>0
 |p::r=>dD p r
noncomputable def cO(ars:List Ar)(M:PL)(a:Nat):PL:=rq M a (gZ (fR M a ars++[0]))
theorem Bt(L:LV)(k:Nat):Ak L k=lk (e9 L) k:=by
 unfold Ak e9
 induction L with
 |nil=>rfl
 |cons p L ih =>
  rw[sf,FR,lk]
  by_cases h:p.1=k
  ·rw[if_pos h,if_pos h]
  ·rw[if_neg h,if_neg h];exact ih
theorem BY(L:LV)(k:Nat)(v:NV):e9 (rp L k v)=rq (e9 L) k v.1:=by
 unfold e9
 induction L with
 |nil=>rfl
 |cons p L ih =>
  rw[rp,FR,rq]
  by_cases h:p.1=k
  ·rw[if_pos h,if_pos h];rfl
  ·rw[if_neg h,if_neg h,FR,ih]
theorem ql(L:LV)(a0:Nat):∀ars:List Ar,dN L a0 ars=fR (e9 L) a0 ars
 |[]=>rfl
 |x::r=>by rw[dN,fR,Bt,ql L a0 r]
theorem wn(l:List NV)(q:NV):∃p r,l++[q]=p::r:=by
 cases l with
 |nil=>exact⟨_,_,rfl⟩
 |cons a l=>exact⟨_,_,rfl⟩
theorem Fk(vs:List NV)(t:Tok):vs.map nv++[.int 0 t]=(vs++[((0,t):NV)]).map nv:=by rw[FM];rfl
theorem sa{w:World}{L:Nat}{hd:Option Value}{x y ep:Nat}{vs:List NV}{t:Tok}(hz:(vs.map nv).length+[Value.int 0 0].length≤sizeLine):Spec w L hd (.call (.builtin "list.__add__") ⟨[.ref (x+937),.ref (y+937)],[]⟩) [(x+937,aa (vs.map nv) ep),(y+937,aa [.int 0 t] 0)] (X:=Nat) (λ_ _=>True) (λn=>.ok (.ret (.ref (n+937))))
  (λn=>[(x+937,aa (vs.map nv) ep),(y+937,aa [.int 0 t] 0)]++[(n+937,aa ((vs++[(0,t)]).map nv) 0)]):=by
 have z:=iy (w:=w) (L:=L) (hd:=hd) (x:=x) (y:=y) (ep:=ep) (ep':=0) (vs:=vs.map nv) (us:=[.int 0 t]) hz
 rw[Fk]at z
 exact z
theorem lz(L:LV)(a0:Nat):∀ars:List Ar,(dN L a0 ars).length≤ars.length
 |[]=>Nat.le_refl _
 |x::r=>by
  rw[dN]
  have:=lz L a0 r
  by_cases h:x.a=a0
  ·rw[if_pos h,FT,FT];lia
  ·rw[if_neg h,FT];lia
theorem fZ:∀(n:Nat)(l:List Nat),l.Nodup→(∀x∈l,x<n)→l.length≤n
 |0,l,_,h=>by
  cases l with
  |nil=>exact Nat.le_refl _
  |cons x l=>exact absurd (h x (.head _)) (Nat.not_lt_zero _)
 |n+1,l,hn,h=>by
  by_cases hm:n∈l
  ·have h1:=fZ n (l.erase n) (hn.erase n) λx hx=>by
    have:=h x (List.mem_of_mem_erase hx)
    have hne:x≠n:=λe=>by subst e;exact(List.Nodup.not_mem_erase hn) hx
    lia
   have:=List.length_erase_of_mem hm
   lia
  ·have:=fZ n l hn λx hx=>by
    have:=h x hx
    have hne:x≠n:=λe=>hm (e▸hx)
    lia
   lia
structure vZ where
 i:Nat
 L:LV
 es:List DictEntry
 ed:Nat
 cw:Option Value
theorem oC{w:World}{x y lo ep dz wz ew ee q1 q2 q3:Nat}{z3:Value}{ars:List Ar}{W:List NV}(hla:ars.length≤100)(hne:ars≠[])(hW:∀p∈W,p.1<6):∀(rem:List NV)(i:Nat)(L:LV)(es:List DictEntry)(ed:Nat)(cw:Option Value),W.drop i=rem→KV (IK w) es (fN L)→(∀k∈L.map (·.1),k<6)→
  Spec w 2 none (wV w.params y lo) ([(y+937,ai (wz+937) i),(wz+937,aa (W.map nv) ew),(lo+937,e7 [de w.params vU q1 (.ref (x+937)),de w.params yR q2 (.ref (wz+937)),de w.params yS q3 z3] ee),(lo+1+937,aC cw),(lo+2+937,aC (some (.ref (dz+937)))),(dz+937,ae es ed),(x+937,aa (ars.map bT) ep)]++ars.map aO)
   (X:=vZ) (λ_ r=>KV (IK w) r.es (fN r.L)∧e9 r.L=(rem.map (·.1)).foldl (cO ars) (e9 L)∧∀k∈r.L.map (·.1),k<6) (λ_=>.ok .next)
   (λr=>[(y+937,av r.i),(wz+937,aa (W.map nv) ew),(lo+937,e7 [de w.params vU q1 (.ref (x+937)),de w.params yR q2 (.ref (wz+937)),de w.params yS q3 z3] ee),(lo+1+937,aC r.cw),(lo+2+937,aC (some (.ref (dz+937)))),(dz+937,ae r.es r.ed),(x+937,aa (ars.map bT) ep)]++ars.map aO):=by
 intro rem
 induction rem with
 |nil =>
  intro i L es ed cw hr hkv h6
  have hx:(W.map nv)[i]?=none:=by
   rw[List.getElem?_eq_none]
   rw[FQ]
   exact List.drop_eq_nil_iff.mp hr
  refine aA _ _ λA R d os hb m0 g tk b Z F E=>?_
  refine cx (L':=0) (hd':=none) F Z 2 1 (a7 (y:=y) (x:=wz) (ep:=ew) (i:=i) hx) [0,1] λnn m1 kk1 g1 _=>?_
  intro sS
  exact fx F E 2 9 [0,1,2,3,4,5,6] ⟨i,L,es,ed,cw⟩ _ (ars.map aO) [] (by rw[FK]) rfl ⟨hkv,rfl,h6⟩
 |cons pw' rem ih =>
  intro i L es ed cw hr hkv h6
  obtain⟨a0,tw⟩:=pw'
  obtain⟨hx0,hr'⟩:=aN hr
  have ha6:a0<6:=hW (a0,tw) (List.mem_of_getElem? hx0)
  have hx:(W.map nv)[i]?=some (nv (a0,tw)):=by rw[List.getElem?_map,hx0];rfl
  have hll:L.length≤100:=by have:=fZ 6 (L.map (·.1)) (dS hkv.2.2) h6;rw[FQ]at this;lia
  have hla3:∀r:z7,r.vs.map (·.1)=dN L a0 ars→(r.vs.map nv).length+[Value.int 0 0].length≤sizeLine:=λr h=>by
   have h1:r.vs.length=(dN L a0 ars).length:=by rw[←h,FQ]
   have h2:=lz L a0 ars
   rw[FQ,sizeLine_eq,FT,List.length_nil]
   lia
  refine aA _ _ λA R d os hb m0 g tk b Z F E=>?_
  refine cx (L':=0) (hd':=none) F Z 2 1 (am (y:=y) (x:=wz) (ep:=ew) (i:=i) hx) [0,1] λ_ m1 kk1 g1 _=>?_
  intro sS
  refine cf (L':=1) (hd':=none) F Z 23 0x207fc71c3000104 ([(m1+937,ai (x+937) 0),(x+937,aa (ars.map bT) ep),(m1+1+937,aa [] 0),(m1+2+937,ae [] 0),(lo+1+937,aC (some (.int (a0:Nat) tw))),(lo+2+937,aC (some (.ref (dz+937)))),(dz+937,ae es ed)]) (ars.map aO) ([]) (λ(r:z7)=>[(m1+937,av r.i),(x+937,aa (ars.map bT) ep),(m1+1+937,aa (r.vs.map nv) r.ea),(m1+2+937,ae (AW w.params (some r.o)) r.ec),(lo+1+937,aC (some (.int (a0:Nat) tw))),(lo+2+937,aC (some (.ref (dz+937)))),(dz+937,ae es ed)]) (λ(r:z7)=>[]) (λ(r:z7)=>ars.map aO) (tu (x:=x) (y:=m1) (ac:=m1+1) (lo:=lo) (lc:=m1+2) (ep:=ep) (a0:=a0) (tw:=tw) (dz:=dz) (ed:=ed) hkv hla hne) [7,6,8,9,3,4,5] (by rw[FK]) λ(r:z7)m2 kk2 g2 hr1=>?_
  intro sS
  refine da F 18 0x92c928a28a28a ?_
  show Gd _ _
  obtain⟨p,rem',hp⟩:=wn r.vs ((0,kk2+0):NV)
  refine cx (L':=0) (hd':=none) F Z 0 0 (sa (x:=m1+1) (y:=m2) (ep:=r.ea) (vs:=r.vs) (t:=kk2+0) (hla3 r hr1)) [8,10] λz m3 kk3 g3 _=>?_
  intro sS
  refine cx (L':=1) (hd':=none) F Z 2 0 (ux (x:=z) (ep:=0) (vs:=r.vs++[(0,kk2+0)]) hp) [11] λ(q:NV×Nat)m4 kk4 g4 hq1=>?_
  intro sS
  refine cx (L':=0) (hd':=none) F Z 8 1597701 (pz (x:=dz) (ep:=ed) (k:=a0) (t:=tw) (v:=q.1) hkv hll) [5] λ(e1:List DictEntry×Nat)m5 kk5 g5 hk1=>?_
  intro sS
  have e0:q.1.1=gZ (fR (e9 L) a0 ars++[0]):=by
   have e1:fR (e9 L) a0 ars++[0]=p.1::rem'.map (·.1):=by
    rw[←ql,←hr1]
    have:=congrArg (List.map (·.1)) hp
    rw[FM]at this
    exact this
   rw[e1]
   exact hq1
  have hs:e9 (rp L a0 q.1)=cO ars (e9 L) a0:=by rw[BY,e0];rfl
  have h6':∀k∈(rp L a0 q.1).map (·.1),k<6:=λk hk=>by
   rw[xB]at hk
   split at hk
   ·exact h6 k hk
   ·rcases F0.mp hk with hk|hk
    ·exact h6 k hk
    ·cases FW.mp hk;exact ha6
  exact ax F E Z 0 0 _ (ars.map aO) [] (ih (i+1) (rp L a0 q.1) e1.1 e1.2 (some (.int (a0:Nat) tw)) hr' hk1 h6') [0,1,2,3,4,5,6] (by rw[FK]) (λ_ x _ hC=>⟨x,⟨hC.1,by rw[hC.2.1,hs];rfl,hC.2.2⟩,rfl,λ_ h=>h,id⟩)
noncomputable def bS(ars:List Ar)(ws:List Nat):Nat→PL→PL
 |0,M=>M
 |n+1,M=>bS ars ws n (ws.foldl (cO ars) M)
noncomputable abbrev zU(P:Params):Option (Tok×Value)→List DictEntry
 |none=>[]
 |some p=>[de P yS p.1 p.2]
noncomputable abbrev wT(P:Params)(q1 q2 x wz:Nat)(o:Option (Tok×Value))(ee:Nat):Obj:=e7 ([de P vU q1 (.ref (x+937)),de P yR q2 (.ref (wz+937))]++zU P o) ee
structure An where
 i:Nat
 L:LV
 es:List DictEntry
 ed:Nat
 cw:Option Value
 o:Option (Tok×Value)
 ee:Nat
theorem uu{w:World}{x y lo ep dz wz ew q1 q2:Nat}{ars:List Ar}{W:List NV}(hla:ars.length≤100)(hne:ars≠[])(hW:∀p∈W,p.1<6):∀(rem:List NV)(i:Nat)(L:LV)(es:List DictEntry)(ed:Nat)(cw:Option Value)(o:Option (Tok×Value))(ee:Nat),W.drop i=rem→KV (IK w) es (fN L)→(∀k∈L.map (·.1),k<6)→
  Spec w 3 none (wU w.params y lo) ([(y+937,ai (wz+937) i),(wz+937,aa (W.map nv) ew),(lo+937,wT w.params q1 q2 x wz o ee),(lo+1+937,aC cw),(lo+2+937,aC (some (.ref (dz+937)))),(dz+937,ae es ed),(x+937,aa (ars.map bT) ep)]++ars.map aO)
   (X:=An) (λ_ r=>KV (IK w) r.es (fN r.L)∧e9 r.L=bS ars (W.map (·.1)) rem.length (e9 L)∧(∀k∈r.L.map (·.1),k<6)∧((o.isSome=true∨rem≠[])→r.o.isSome=true)) (λ_=>.ok .next)
   (λr=>[(y+937,av r.i),(wz+937,aa (W.map nv) ew),(lo+937,wT w.params q1 q2 x wz r.o r.ee),(lo+1+937,aC r.cw),(lo+2+937,aC (some (.ref (dz+937)))),(dz+937,ae r.es r.ed),(x+937,aa (ars.map bT) ep)]++ars.map aO):=by
 intro rem
 induction rem with
 |nil =>
  intro i L es ed cw o ee hr hkv h6
  have hx:(W.map nv)[i]?=none:=by
   rw[List.getElem?_eq_none]
   rw[FQ]
   exact List.drop_eq_nil_iff.mp hr
  refine aA _ _ λA R d os hb m0 g tk b Z F E=>?_
  refine cx (L':=0) (hd':=none) F Z 2 1 (a7 (y:=y) (x:=wz) (ep:=ew) (i:=i) hx) [0,1] λnn m1 kk1 g1 _=>?_
  intro sS
  exact fx F E 2 9 [0,1,2,3,4,5,6] ⟨i,L,es,ed,cw,o,ee⟩ _ (ars.map aO) [] (by rw[FK]) rfl ⟨hkv,rfl,h6,λq=>q.elim id λz=>absurd rfl z⟩
 |cons pw' rem ih =>
  intro i L es ed cw o ee hr hkv h6
  obtain⟨a1,t1⟩:=pw'
  obtain⟨hx0,hr'⟩:=aN hr
  have hx:(W.map nv)[i]?=some (nv (a1,t1)):=by rw[List.getElem?_map,hx0];rfl
  refine aA _ _ λA R d os hb m0 g tk b Z F E=>?_
  rcases o with _|⟨q3,z3⟩
  ·
   refine cx (L':=0) (hd':=none) F Z 2 1 (am (y:=y) (x:=wz) (ep:=ew) (i:=i) hx) [0,1] λ_ m1 kk1 g1 _=>?_
   intro sS
   refine cf (L':=2) (hd':=none) F Z 20 35389490868419 ([(m1+937,ai (wz+937) 0),(wz+937,aa (W.map nv) ew),(lo+937,e7 [de w.params vU q1 (.ref (x+937)),de w.params yR q2 (.ref (wz+937)),de w.params yS kk1 (nv (a1,t1))] (ee+1)),(lo+1+937,aC cw),(lo+2+937,aC (some (.ref (dz+937)))),(dz+937,ae es ed),(x+937,aa (ars.map bT) ep)]) (ars.map aO) ([]) (λ(r:vZ)=>[(m1+937,av r.i),(wz+937,aa (W.map nv) ew),(lo+937,e7 [de w.params vU q1 (.ref (x+937)),de w.params yR q2 (.ref (wz+937)),de w.params yS kk1 (nv (a1,t1))] (ee+1)),(lo+1+937,aC r.cw),(lo+2+937,aC (some (.ref (dz+937)))),(dz+937,ae r.es r.ed),(x+937,aa (ars.map bT) ep)]) (λ(r:vZ)=>[]) (λ(r:vZ)=>ars.map aO) (oC (x:=x) (y:=m1) (lo:=lo) (ep:=ep) (dz:=dz) (wz:=wz) (ew:=ew) (ee:=(ee+1)) (q1:=q1) (q2:=q2) (q3:=kk1) (z3:=nv (a1,t1)) hla hne hW W 0 L es ed cw rfl hkv h6) [7,1,2,3,4,5,6] (by rw[FK]) λ(r:vZ)m2 kk2 g2 hr1=>?_
   intro sS
   exact ax F E Z 0 0 _ (ars.map aO) [] (ih (i+1) r.L r.es r.ed r.cw (some (kk1,nv (a1,t1))) (ee+1) hr' hr1.1 hr1.2.2) [0,1,2,3,4,5,6] (by rw[FK]) (λ_ x _ hC=>⟨x,⟨hC.1,by rw[hC.2.1,hr1.2.1];rfl,hC.2.2.1,λ_=>hC.2.2.2 (.inl rfl)⟩,rfl,λ_ h=>h,id⟩)
  ·
   refine cx (L':=0) (hd':=none) F Z 2 1 (am (y:=y) (x:=wz) (ep:=ew) (i:=i) hx) [0,1] λ_ m1 kk1 g1 _=>?_
   intro sS
   refine cf (L':=2) (hd':=none) F Z 20 35389490868419 ([(m1+937,ai (wz+937) 0),(wz+937,aa (W.map nv) ew),(lo+937,e7 [de w.params vU q1 (.ref (x+937)),de w.params yR q2 (.ref (wz+937)),de w.params yS q3 (nv (a1,t1))] ee),(lo+1+937,aC cw),(lo+2+937,aC (some (.ref (dz+937)))),(dz+937,ae es ed),(x+937,aa (ars.map bT) ep)]) (ars.map aO) ([]) (λ(r:vZ)=>[(m1+937,av r.i),(wz+937,aa (W.map nv) ew),(lo+937,e7 [de w.params vU q1 (.ref (x+937)),de w.params yR q2 (.ref (wz+937)),de w.params yS q3 (nv (a1,t1))] ee),(lo+1+937,aC r.cw),(lo+2+937,aC (some (.ref (dz+937)))),(dz+937,ae r.es r.ed),(x+937,aa (ars.map bT) ep)]) (λ(r:vZ)=>[]) (λ(r:vZ)=>ars.map aO) (oC (x:=x) (y:=m1) (lo:=lo) (ep:=ep) (dz:=dz) (wz:=wz) (ew:=ew) (ee:=ee) (q1:=q1) (q2:=q2) (q3:=q3) (z3:=nv (a1,t1)) hla hne hW W 0 L es ed cw rfl hkv h6) [7,1,2,3,4,5,6] (by rw[FK]) λ(r:vZ)m2 kk2 g2 hr1=>?_
   intro sS
   exact ax F E Z 0 0 _ (ars.map aO) [] (ih (i+1) r.L r.es r.ed r.cw (some (q3,nv (a1,t1))) ee hr' hr1.1 hr1.2.2) [0,1,2,3,4,5,6] (by rw[FK]) (λ_ x _ hC=>⟨x,⟨hC.1,by rw[hC.2.1,hr1.2.1];rfl,hC.2.2.1,λ_=>hC.2.2.2 (.inl rfl)⟩,rfl,λ_ h=>h,id⟩)
noncomputable def dm(k:Nat)(M:PL):List Str:=(M.filter λp=>p.2==k).map λp=>nm p.1
noncomputable abbrev mZ(P:Params):Option (Tok×Value)→List DictEntry
 |none=>[]
 |some p=>[de P yQ p.1 p.2]
structure Ez where
 i:Nat
 ss:List SV
 ea:Nat
 ec:Nat
 o:Option (Tok×Value)
structure Cv where
 i:Nat
 ss:List SV
 ea:Nat
 ec:Nat
 o:Tok×Value
theorem wP{L:LV}(hn:(L.map (·.1)).Nodup){i:Nat}{p:Nat×NV}(h:L[i]?=some p):sf L p.1=some p.2:=by
 induction L generalizing i with
 |nil=>simp at h
 |cons q L ih =>
  rw[FR,List.nodup_cons]at hn
  cases i with
  |zero=>rw[List.getElem?_cons_zero]at h;cases h;rw[sf,if_pos rfl]
  |succ i =>
   rw[List.getElem?_cons_succ]at h
   rw[sf,if_neg λe:q.1=p.1=>hn.1 (e▸FP (f:=(·.1)) (List.mem_of_getElem? h)),ih hn.2 h]
theorem AU{w:World}{L:Nat}{hd:Option Value}{A:Around}{R:Result→Shared→Prop}{d:Drawn}{os:OsState}{hb:Heap}{m0:cM}{g:GB}{fr:ah}{s:St}{c:Code}{nb:Nat}{X X':Type}{C:Nat→X→Prop}{r:X→Result}{post:X→ah}{C':Nat→X'→Prop}{r':X'→Result}{post':X'→ah}{pre:ah}(F:fP w hd A R d os hb m0)(E:jF d os hb nb m0 C r post R)(Z:Rm A L hd)(n pl:Nat)(S:Spec w L hd c pre C' r' post')(sel:List Nat)(h:∀n x',nb≤n→C' n x'→∃x,C nb x∧r' x'=r x∧(∀p∈post x,p∈post' x')∧(((post' x').map (·.1)).Nodup→((post x).map (·.1)).Nodup))(ok:((go (ag w hd) n pl s).Y&&(cg 0 sel&&(qq c&&(dC (go (ag w hd) n pl s).S.T&&dM (go (ag w hd) n pl s).S.K))))=true:=by kernel_rfl)(ab:(go (ag w hd) n pl s).A=(go (ag w hd) n pl s).B:=by kernel_rfl)(ec:ff (go (ag w hd) n pl s).S.T=c:=by kernel_rfl)(hsel:bu (go (ag w hd) n pl s).S.O sel=pre.map some:=by kernel_rfl):Gd (aG w A R d os hb m0 g fr) s:=
 ax F E Z n pl pre [] fr (by rw[FK];exact S) sel (FL _) h ok ab ec hsel
theorem w7{w:World}{y ac lo lc kz dz ed k tq:Nat}{es:List DictEntry}{L:LV}(hkv:KV (IK w) es (fN L))(h6:∀k∈L.map (·.1),k<6):∀(rem:LV)(i:Nat)(ss:List SV)(o:Option (Tok×Value))(ea ec:Nat),L.drop i=rem→ss.length+rem.length≤100→
  Spec w 2 none (zp w.params y ac lo lc kz) [(y+937,aT (dz+937) i es.length ed),(dz+937,ae es ed),(ac+937,aa (ss.map sv) ea),(lc+937,ae (mZ w.params o) ec),(lo+2+937,aC (some (.ref (dz+937)))),(kz+937,aC (some (.int (k:Nat) tq)))]
   (X:=Ez) (λ_ r=>r.ss.map (·.1)=ss.map (·.1)++dm k (e9 rem)∧((o.isSome=true∨rem≠[])→r.o.isSome=true)) (λ_=>.ok .next) (λr=>[(y+937,mF r.i es.length ed),(dz+937,ae es ed),(ac+937,aa (r.ss.map sv) r.ea),(lc+937,ae (mZ w.params r.o) r.ec),(lo+2+937,aC (some (.ref (dz+937)))),(kz+937,aC (some (.int (k:Nat) tq)))]):=by
 intro rem
 induction rem with
 |nil =>
  intro i ss o ea ec hr hl
  have hx:es[i]?=none:=by
   rw[List.getElem?_eq_none]
   rw[qL hkv]
   exact List.drop_eq_nil_iff.mp hr
  refine ak λA R d os hb m0 g tk b Z F E=>?_
  refine cx (L':=0) (hd':=none) F Z 2 1 (pA (y:=y) (x:=dz) (ep:=ed) hx) [0,1] λnn m1 kk1 g1 _=>?_
  intro sS
  exact fx F E 1 8 [0,1,2,3,4,5] ⟨i,ss,ea,ec,o⟩ _ [] [] (FL _) (FK _).symm ⟨(FK _).symm,λq=>q.elim id λz=>absurd rfl z⟩
 |cons p rem ih =>
  intro i ss o ea ec hr hl
  obtain⟨hx0,hr'⟩:=aN hr
  obtain⟨en,hx,_,t,hkey⟩:=mS hkv hx0
  have hlk:=wP (dS hkv.2.2) hx0
  have hp6:p.1<6:=h6 _ (FP (List.mem_of_getElem? hx0))
  rw[FT]at hl
  have hrs:(ss.map sv).length≤sizeLine:=by rw[FQ,sizeLine_eq];lia
  have Jf:=λ(o:Option (Tok×Value))(ea ec:Nat)=>ih (i+1) ss o ea ec hr' (by lia)
  have Jt:=λ(q:SV)(o:Option (Tok×Value))(ea ec:Nat)=>ih (i+1) (ss++[q]) o ea ec hr' (by rw[FZ];simp only[FT,List.length_nil];lia)
  have em:∀q:SV,(ss++[q]).map sv=ss.map sv++[sv q]:=λq=>FM
  clear ih
  refine ak λA R d os hb m0 g tk b Z F E=>?_
  cases hc:((p.2.1:Nat):Int)==((k:Nat):Int)
  ·have hn:(p.2.1==k)=false:=by
    rw[beq_eq_false_iff_ne];intro e;rw[e]at hc;simp at hc
   have hz:aL (((p.2.1:Nat):Int)==((k:Nat):Int))=aL false:=by rw[hc]
   have HH:dm k (e9 (p::rem))=dm k (e9 rem):=by
    unfold dm e9
    rw[FR,List.filter_cons_of_neg (by show¬(p.2.1==k)=true;rw[hn];exact Bool.false_ne_true)]
   rw[HH]at E
   rcases o with _|⟨q1,z1⟩
   ·
    refine cx (L':=0) (hd':=none) F Z 2 1 (im (y:=y) (x:=dz) (ep:=ed) (i:=i) hx) [0,1] λ_ m1 kk1 g1 _=>?_
    show Gd _ _
    rw[hkey]
    refine cx (L':=0) (hd':=none) F Z 15 139621060868 (cD (x:=dz) (ep:=ed) (k:=p.1) (t:=t) hkv hlk) [1] λ_ m2 kk2 g2 _=>?_
    intro sS
    refine sx F 6 4038 (by kernel_rfl) (by kernel_rfl) (aL (((p.2.1:Nat):Int)==((k:Nat):Int))) (aL false) (by kernel_rfl) (hz) ?_
    refine da F 1 0 ?_
    intro sS
    exact AU F E Z 0 0 (Jf (some (kk1,.int (p.1:Nat) t)) ea (ec+1)) [0,1,2,3,4,5] (λ_ x _ hC=>⟨x,⟨hC.1,λ_=>hC.2 (.inl rfl)⟩,rfl,λ_ h=>h,id⟩)
   ·
    refine cx (L':=0) (hd':=none) F Z 2 1 (im (y:=y) (x:=dz) (ep:=ed) (i:=i) hx) [0,1] λ_ m1 kk1 g1 _=>?_
    show Gd _ _
    rw[hkey]
    refine cx (L':=0) (hd':=none) F Z 15 139621060868 (cD (x:=dz) (ep:=ed) (k:=p.1) (t:=t) hkv hlk) [1] λ_ m2 kk2 g2 _=>?_
    intro sS
    refine sx F 6 4038 (by kernel_rfl) (by kernel_rfl) (aL (((p.2.1:Nat):Int)==((k:Nat):Int))) (aL false) (by kernel_rfl) (hz) ?_
    refine da F 1 0 ?_
    intro sS
    exact AU F E Z 0 0 (Jf (some (q1,.int (p.1:Nat) t)) ea ec) [0,1,2,3,4,5] (λ_ x _ hC=>⟨x,⟨hC.1,λ_=>hC.2 (.inl rfl)⟩,rfl,λ_ h=>h,id⟩)
  ·have hy:p.2.1=k:=by have:=eq_of_beq hc;lia
   have hz:aL (((p.2.1:Nat):Int)==((k:Nat):Int))=aL true:=by rw[hc]
   have HH:dm k (e9 (p::rem))=nm p.1::dm k (e9 rem):=by
    unfold dm e9
    rw[FR,List.filter_cons_of_pos (by show(p.2.1==k)=true;rw[hy];exact beq_self_eq_true k)];rfl
   rw[HH]at E
   rcases o with _|⟨q1,z1⟩
   ·
    refine cx (L':=0) (hd':=none) F Z 2 1 (im (y:=y) (x:=dz) (ep:=ed) (i:=i) hx) [0,1] λ_ m1 kk1 g1 _=>?_
    show Gd _ _
    rw[hkey]
    refine cx (L':=0) (hd':=none) F Z 15 139621060868 (cD (x:=dz) (ep:=ed) (k:=p.1) (t:=t) hkv hlk) [1] λ_ m2 kk2 g2 _=>?_
    intro sS
    refine sx F 6 4038 (by kernel_rfl) (by kernel_rfl) (aL (((p.2.1:Nat):Int)==((k:Nat):Int))) (aL true) (by kernel_rfl) (hz) ?_
    refine cx (L':=1) (hd':=none) F Z 7 256 (mX _ p.1 hp6 t) [] λs3 m3 kk3 g3 _=>?_
    intro sS
    refine cx (L':=0) (hd':=none) F Z 1 0 (af (x:=ac) (ep:=ea) (v:=sv (nm p.1,s3)) hrs) [2] λ_ m4 kk4 g4 _=>?_
    intro sS
    have z:=Jt (nm p.1,s3) (some (kk1,.int (p.1:Nat) t)) (ea+1) (ec+1)
    rw[em]at z
    exact AU F E Z 0 0 z [0,1,2,3,4,5] (λ_ x _ hC=>⟨x,⟨hC.1.trans (by rw[FM,FV];rfl),λ_=>hC.2 (.inl rfl)⟩,rfl,λ_ h=>h,id⟩)
   ·
    refine cx (L':=0) (hd':=none) F Z 2 1 (im (y:=y) (x:=dz) (ep:=ed) (i:=i) hx) [0,1] λ_ m1 kk1 g1 _=>?_
    show Gd _ _
    rw[hkey]
    refine cx (L':=0) (hd':=none) F Z 15 139621060868 (cD (x:=dz) (ep:=ed) (k:=p.1) (t:=t) hkv hlk) [1] λ_ m2 kk2 g2 _=>?_
    intro sS
    refine sx F 6 4038 (by kernel_rfl) (by kernel_rfl) (aL (((p.2.1:Nat):Int)==((k:Nat):Int))) (aL true) (by kernel_rfl) (hz) ?_
    refine cx (L':=1) (hd':=none) F Z 7 256 (mX _ p.1 hp6 t) [] λs3 m3 kk3 g3 _=>?_
    intro sS
    refine cx (L':=0) (hd':=none) F Z 1 0 (af (x:=ac) (ep:=ea) (v:=sv (nm p.1,s3)) hrs) [2] λ_ m4 kk4 g4 _=>?_
    intro sS
    have z:=Jt (nm p.1,s3) (some (q1,.int (p.1:Nat) t)) (ea+1) ec
    rw[em]at z
    exact AU F E Z 0 0 z [0,1,2,3,4,5] (λ_ x _ hC=>⟨x,⟨hC.1.trans (by rw[FM,FV];rfl),λ_=>hC.2 (.inl rfl)⟩,rfl,λ_ h=>h,id⟩)
theorem uF{w:World}{y ac lo lc kz dz ed k tq:Nat}{es:List DictEntry}{L:LV}(hkv:KV (IK w) es (fN L))(h6:∀k∈L.map (·.1),k<6)(hne:L≠[])(hl:L.length≤100):
  Spec w 2 none (w5 w.params y ac lo lc kz) [(y+937,aT (dz+937) 0 es.length ed),(dz+937,ae es ed),(ac+937,aa ([].map sv) 0),(lc+937,ae (mZ w.params none) 0),(lo+2+937,aC (some (.ref (dz+937)))),(kz+937,aC (some (.int (k:Nat) tq)))]
   (X:=Cv) (λ_ r=>r.ss.map (·.1)=dm k (e9 L)) (λ_=>.ok .next) (λr=>[(y+937,mF r.i es.length ed),(dz+937,ae es ed),(ac+937,aa (r.ss.map sv) r.ea),(lc+937,ae (mZ w.params (some r.o)) r.ec),(lo+2+937,aC (some (.ref (dz+937)))),(kz+937,aC (some (.int (k:Nat) tq)))]):=by
 have S:=w7 (w:=w) (y:=y) (ac:=ac) (lo:=lo) (lc:=lc) (kz:=kz) (dz:=dz) (ed:=ed) (k:=k) (tq:=tq) hkv h6 L 0 [] none 0 0 rfl (by rw[List.length_nil];lia)
 obtain⟨v,b1,b2,b3,rfl⟩:=al w
 have z:=bC (C:=λr:Ez=>r.ss.map (·.1)=[]++dm k (e9 L)∧(((none:Option (Tok×Value)).isSome=true∨L≠[])→r.o.isSome=true)) (o:=aT (dz+937) 0 es.length ed) S (λb tk=>by refine Bool.rec ?_ ?_ b2<;>kernel_rfl)
 refine z.convP (Nat.le_refl _) (FL _) λn r hC=>?_
 obtain⟨i,ss,ea,ec,o⟩:=r
 obtain⟨oo,rfl⟩:=Option.isSome_iff_exists.mp (hC.2 (.inr hne))
 exact⟨⟨i,ss,ea,ec,oo⟩,hC.1,rfl,FL _⟩
theorem jK{w:World}(a:Addr)(vs:List Value)(ss:List Str)(n:Nat)(hS:StrsAre vs ss)(k6:vs.length<64):
  MeetsIn pw w (Builtin.«list.sort» ⟨[.ref a],[]⟩) (λA R s=>s.heap.get? a=some (seqObj "list" vs.toArray n)∧
   ∀(out:Array Value)(ss':List Str),StrsAre out.toList ss'→ss'.Perm ss→sortedS ss'=true→R (.ok (.ret .none)) {s with heap:=sortedHeap s.heap a vs out}):=
 .of_wp λA R s⟨ho,h⟩=>list_sort_treeK strKind_oneLt ho hS.keysOf (λv₁ v₂ rest e=>keyKind_strs (by rw[←e];exact hS)) k6 λst' hp hs=>by
  obtain⟨ss',h1,h2,h3⟩:=sorted_out_str hS hp hs
  exact⟨_,rfl,h _ ss' h1 h2 h3⟩
theorem ru:∀ps:List SV,StrsAre (ps.map sv) (ps.map (·.1))
 |[]=>.nil
 |p::ps=>.cons p.1 p.2 (ru ps)
theorem xE{vs:List Value}{ss:List Str}(h:StrsAre vs ss):∃ps:List SV,vs=ps.map sv∧ps.map (·.1)=ss:=by
 induction h with
 |nil=>exact⟨[],rfl,rfl⟩
 |cons y t _ ih =>
  obtain⟨ps,e1,e2⟩:=ih
  exact⟨(y,t)::ps,by rw[e1];rfl,by rw[←e2];rfl⟩
theorem ju{w:World}{L:Nat}{hd:Option Value}{x ep:Nat}{ps:List SV}(k6:ps.length<64):Spec w L hd (.call (.builtin "list.sort") ⟨[.ref (x+937)],[]⟩) [(x+937,aa (ps.map sv) ep)] (X:=List SV×Nat) (λ_ y=>(y.1.map (·.1)).Perm (ps.map (·.1))∧sortedS (y.1.map (·.1))=true) (λ_=>.ok (.ret .none)) (λy=>[(x+937,aa (y.1.map sv) y.2)]):=
 aq F.slot_list_sort F.entry_list_sort (F.args_list_sort_1 _) (jK (x+937) (ps.map sv) (ps.map (·.1)) ep (ru ps) (by rw[FQ];exact k6)) λA hp g d tk os hA hst hpre nd=>by
  have h:=hpre _ (.head _)
  have h':hp.get? (x+937)=some (seqObj "list" (ps.map sv).toArray ep):=by
   rw[h]
   exact congrArg some (be _ _)
  refine⟨⟨_,h',rfl⟩,h',λout ss' h1 h2 h3=>?_⟩
  obtain⟨qs,e1,e2⟩:=xE h1
  have s1:=Heap.SameBut.update hp (x+937) (Obj.mapSeq λ_=>#[])
  have g1:=Heap.get?_update_self (Obj.mapSeq λ_=>#[]) h' rfl
  have g2:=Heap.get?_push_of_some (seqObj "list" #[] 0) (Heap.get?_push_of_some (seqObj "tuple" (ps.map sv).toArray 0) g1)
  have g3:=Heap.get?_update_self (Obj.mapSeq λ_=>out) g2 rfl
  have s3:=Heap.SameBut.update ((((hp.update (x+937) (Obj.mapSeq λ_=>#[])).push (seqObj "tuple" (ps.map sv).toArray 0)).push (seqObj "list" #[] 0))) (x+937) (Obj.mapSeq λ_=>out)
  obtain⟨e,he⟩:∃e,Obj.mapSeq (λ_=>out) (Obj.mapSeq (λ_=>#[]) (seqObj "list" (ps.map sv).toArray ep))=aa (qs.map sv) e:=by
   refine⟨if(out.size==(#[]:Array Value).size)=true then(if((#[]:Array Value).size==(ps.map sv).toArray.size)=true then ep else ep+1)else(if((#[]:Array Value).size==(ps.map sv).toArray.size)=true then ep else ep+1)+1,?_⟩
   rw[be,←e1]
   rfl
  refine⟨(qs,e),_,tk,g,rfl,⟨by rw[e2];exact h2,by rw[e2];exact h3⟩,?_,λp h=>.inl (by simpa using FP (f:=(·.1)) h),by simp,?_,?_⟩
  ·intro p hp'
   cases FW.mp hp'
   rw[←he]
   exact g3
  ·intro b o e hb
   simp only[FR,List.map_nil,FW]at hb
   exact a6 ((s3.2 b hb).trans (Heap.get?_push_of_some _ (Heap.get?_push_of_some _ ((s1.2 b hb).trans e))))
  ·unfold sortedHeap
   rw[s3.1,Heap.size_push,Heap.size_push,s1.1]
   lia
theorem qF:∀ps:List NV,IntsAre (ps.map nv) (ps.map λp=>(p.1:Int))
 |[]=>.nil
 |p::ps=>.cons (p.1:Int) p.2 (qF ps)
theorem wB{vs:List Value}{ns:List Int}(h:IntsAre vs ns):(∀n∈ns,(0:Int)≤n)→∃ps:List NV,vs=ps.map nv∧(ps.map λp=>(p.1:Int))=ns:=by
 induction h with
 |nil=>exactλ_=>⟨[],rfl,rfl⟩
 |cons n t _ ih =>
  intro hp
  obtain⟨ps,e1,e2⟩:=ih λm hm=>hp m (.tail _ hm)
  have h0:((n.toNat:Nat):Int)=n:=Int.toNat_of_nonneg (hp n (.head _))
  refine⟨(n.toNat,t)::ps,?_,?_⟩
  ·rw[e1,FR]
   show _=Value.int ((n.toNat:Nat):Int) t::_
   rw[h0]
  ·rw[FR,e2]
   show((n.toNat:Nat):Int)::_=_
   rw[h0]
theorem rO{a b:List Nat}(h:(a.map λn:Nat=>(n:Int)).Perm (b.map λn:Nat=>(n:Int))):a.Perm b:=by
 have z:=h.map Int.toNat
 simpa [List.map_map,Function.comp_def]using z
theorem iA{w:World}(a:Addr)(ps:List NV)(n:Nat)(k6:ps.length<64):
  MeetsIn pw w (Builtin.«list.sort» ⟨[.ref a],[]⟩) (λA R s=>s.heap.get? a=some (seqObj "list" (ps.map nv).toArray n)∧
   ∀(out:Array Value)(qs:List NV),out.toList=qs.map nv→(qs.map (·.1)).Perm (ps.map (·.1))→(qs.map (·.1)).Pairwise (·≤·)→R (.ok (.ret .none)) {s with heap:=sortedHeap s.heap a (ps.map nv) out}):=
 .of_wp λA R s⟨ho,h⟩=>list_sort_tree ho (qF ps) (by rw[FQ];exact k6) λout ns' h1 h2 h3=>by
  obtain⟨qs,e1,e2⟩:=wB h1 λn hn=>by
   have:=h2.mem_iff.mp hn
   obtain⟨p,_,rfl⟩:=FX.mp this
   exact Int.natCast_nonneg _
  subst e2
  refine⟨_,rfl,h _ qs e1 ?_ ?_⟩
  ·exact rO (by simpa [List.map_map,Function.comp_def]using h2)
  ·rw[List.pairwise_map]at h3⊢
   exact h3.imp λh=>by lia
theorem oA{w:World}{L:Nat}{hd:Option Value}{x ep:Nat}{ps:List NV}(k6:ps.length<64):Spec w L hd (.call (.builtin "list.sort") ⟨[.ref (x+937)],[]⟩) [(x+937,aa (ps.map nv) ep)] (X:=List NV×Nat) (λ_ y=>(y.1.map (·.1)).Perm (ps.map (·.1))∧(y.1.map (·.1)).Pairwise (·≤·)) (λ_=>.ok (.ret .none)) (λy=>[(x+937,aa (y.1.map nv) y.2)]):=
 aq F.slot_list_sort F.entry_list_sort (F.args_list_sort_1 _) (iA (x+937) ps ep k6) λA hp g d tk os hA hst hpre nd=>by
  have h:=hpre _ (.head _)
  have h':hp.get? (x+937)=some (seqObj "list" (ps.map nv).toArray ep):=by
   rw[h]
   exact congrArg some (be _ _)
  refine⟨⟨_,h',rfl⟩,h',λout qs e1 h2 h3=>?_⟩
  have s1:=Heap.SameBut.update hp (x+937) (Obj.mapSeq λ_=>#[])
  have g1:=Heap.get?_update_self (Obj.mapSeq λ_=>#[]) h' rfl
  have g2:=Heap.get?_push_of_some (seqObj "list" #[] 0) (Heap.get?_push_of_some (seqObj "tuple" (ps.map nv).toArray 0) g1)
  have g3:=Heap.get?_update_self (Obj.mapSeq λ_=>out) g2 rfl
  have s3:=Heap.SameBut.update ((((hp.update (x+937) (Obj.mapSeq λ_=>#[])).push (seqObj "tuple" (ps.map nv).toArray 0)).push (seqObj "list" #[] 0))) (x+937) (Obj.mapSeq λ_=>out)
  obtain⟨e,he⟩:∃e,Obj.mapSeq (λ_=>out) (Obj.mapSeq (λ_=>#[]) (seqObj "list" (ps.map nv).toArray ep))=aa (qs.map nv) e:=by
   refine⟨if(out.size==(#[]:Array Value).size)=true then(if((#[]:Array Value).size==(ps.map nv).toArray.size)=true then ep else ep+1)else(if((#[]:Array Value).size==(ps.map nv).toArray.size)=true then ep else ep+1)+1,?_⟩
   rw[be,←e1]
   rfl
  refine⟨(qs,e),_,tk,g,rfl,⟨h2,h3⟩,?_,λp h=>.inl (by simpa using FP (f:=(·.1)) h),by simp,?_,?_⟩
  ·intro p hp'
   cases FW.mp hp'
   rw[←he]
   exact g3
  ·intro b o e hb
   simp only[FR,List.map_nil,FW]at hb
   exact a6 ((s3.2 b hb).trans (Heap.get?_push_of_some _ (Heap.get?_push_of_some _ ((s1.2 b hb).trans e))))
  ·unfold sortedHeap
   rw[s3.1,Heap.size_push,Heap.size_push,s1.1]
   lia
noncomputable def pb(vs:List Value):Sem Value:=PySem.W.Fast.tw2244487426110161322 vs
noncomputable def jX(vs:List Value):Sem Value:=Sem.alloc ⟨.type "list",none,.seq ⟨vs⟩ 0,#[]⟩ λa=>.pure (.ref a)
theorem kW(vs:List Value)(h:vs.length≤sizeLine):pb vs=jX vs:=by
 unfold pb
 rw[←PySem.W.Fast.te2244487426110161322]
 unfold newList newObj
 dsimp only
 rw[if_neg (by rw[List.size_toArray];lia)]
 rfl
noncomputable abbrev sI(y:Nat)(l:Value):Sem PySem.Fin:=PySem.W.R.bindR (PySem.W.Fast.tw17359229931016689406 [l] (PySem.W.Fast.tw11478286150595567475 (.builtin "list.sort") [l] [])) λ_=>PySem.W.Fast.tw6905046200447255374 l
theorem vo{w:World}{y ep:Nat}{ps:List NV}(k6:ps.length<64):Spec w 1 none (.call (.builtin "sorted") ⟨[.ref (y+937)],[]⟩) [(y+937,aa (ps.map nv) ep)]
  (X:=Nat×List NV×Nat) (λ_ r=>(r.2.1.map (·.1)).Perm (ps.map (·.1))∧(r.2.1.map (·.1)).Pairwise (·≤·)) (λr=>.ok (.ret (.ref (r.1+937)))) (λr=>[(y+937,aa (ps.map nv) ep)]++[(r.1+937,aa (r.2.1.map nv) r.2.2)]):=by
 have hz:(ps.map nv).length≤sizeLine:=by rw[FQ,sizeLine_eq];lia
 obtain⟨v,b1,b2,b3,rfl⟩:=al w
 refine ak λA R d os hb m0 g tk b Z F E=>?_
 refine cx (L':=0) (hd':=none) F Z 1 0 (eS (y:=y) (ep:=ep) (vs:=ps.map nv) (b:=true) hz) [0] λ(c1:Nat×Nat)m1 kk1 g1 _=>?_
 intro sS
 refine ze F 1 2 (PySem.W.R.bindR (pb (ps.map nv)) (sI y)) (PySem.W.R.bindR (jX (ps.map nv)) (sI y)) (by rw[kW _ hz]) (by kernel_rfl) (by kernel_rfl) (by kernel_rfl) ?_
 refine cx (L':=0) (hd':=none) F Z 1 0 (oA (x:=m1) (ep:=0) (ps:=ps) k6) [2] λ(ys:List NV×Nat)m2 kk2 g2 hys=>?_
 intro sS
 exact fx F E 0 0 [0,2] (m1,ys.1,ys.2) _ [] [] (FL _) (FK _).symm hys
theorem vp{w:World}{y ep:Nat}{ps:List SV}(k6:ps.length<64):Spec w 1 none (.call (.builtin "sorted") ⟨[.ref (y+937)],[]⟩) [(y+937,aa (ps.map sv) ep)]
  (X:=Nat×List SV×Nat) (λ_ r=>(r.2.1.map (·.1)).Perm (ps.map (·.1))∧sortedS (r.2.1.map (·.1))=true) (λr=>.ok (.ret (.ref (r.1+937)))) (λr=>[(y+937,aa (ps.map sv) ep)]++[(r.1+937,aa (r.2.1.map sv) r.2.2)]):=by
 have hz:(ps.map sv).length≤sizeLine:=by rw[FQ,sizeLine_eq];lia
 obtain⟨v,b1,b2,b3,rfl⟩:=al w
 refine ak λA R d os hb m0 g tk b Z F E=>?_
 refine cx (L':=0) (hd':=none) F Z 1 0 (eS (y:=y) (ep:=ep) (vs:=ps.map sv) (b:=true) hz) [0] λ(c1:Nat×Nat)m1 kk1 g1 _=>?_
 intro sS
 refine ze F 1 2 (PySem.W.R.bindR (pb (ps.map sv)) (sI y)) (PySem.W.R.bindR (jX (ps.map sv)) (sI y)) (by rw[kW _ hz]) (by kernel_rfl) (by kernel_rfl) (by kernel_rfl) ?_
 refine cx (L':=0) (hd':=none) F Z 1 0 (ju (x:=m1) (ep:=0) (ps:=ps) k6) [2] λ(ys:List SV×Nat)m2 kk2 g2 hys=>?_
 intro sS
 exact fx F E 0 0 [0,2] (m1,ys.1,ys.2) _ [] [] (FL _) (FK _).symm hys
theorem o8{w:World}{y:Nat}{ps:List SV}(k6:ps.length<64):Spec w 1 none (.call (.builtin "sorted") ⟨[.ref (y+937)],[]⟩) [(y+937,aW (ps.map sv))]
  (X:=Nat×List SV×Nat) (λ_ r=>(r.2.1.map (·.1)).Perm (ps.map (·.1))∧sortedS (r.2.1.map (·.1))=true) (λr=>.ok (.ret (.ref (r.1+937)))) (λr=>[(y+937,aW (ps.map sv))]++[(r.1+937,aa (r.2.1.map sv) r.2.2)]):=by
 have hz:(ps.map sv).length≤sizeLine:=by rw[FQ,sizeLine_eq];lia
 obtain⟨v,b1,b2,b3,rfl⟩:=al w
 refine ak λA R d os hb m0 g tk b Z F E=>?_
 refine cx (L':=0) (hd':=none) F Z 1 0 (eS (y:=y) (ep:=0) (vs:=ps.map sv) (b:=false) hz) [0] λ(c1:Nat×Nat)m1 kk1 g1 _=>?_
 intro sS
 refine ze F 1 2 (PySem.W.R.bindR (pb (ps.map sv)) (sI y)) (PySem.W.R.bindR (jX (ps.map sv)) (sI y)) (by rw[kW _ hz]) (by kernel_rfl) (by kernel_rfl) (by kernel_rfl) ?_
 refine cx (L':=0) (hd':=none) F Z 1 0 (ju (x:=m1) (ep:=0) (ps:=ps) k6) [2] λ(ys:List SV×Nat)m2 kk2 g2 hys=>?_
 intro sS
 exact fx F E 0 0 [0,2] (m1,ys.1,ys.2) _ [] [] (FL _) (FK _).symm hys
section
noncomputable abbrev kI:List Stmt:=aE (aj 41)
noncomputable abbrev gN:Stmt:=br kI 0
noncomputable abbrev eE(P:Params)(lo:Nat):Env:=bH 919 (zt P) lo
noncomputable abbrev fD(P:Params)(lo:Nat):Code:=.func kI (eE P lo)
structure Fj where
 y:k9
 σ:Array (Option Value)
section
variable{w:World}{x1 x2 x3 lo q1 k1 k2 k3 k4 t3 t4 ep ep2:Nat}{out fin:Int}{G:List Nd}{es:List DictEntry}
theorem xm(h:KV (SK w) es (aH G))(hne:∀v∈G,v.ss≠[])(hG:G≠[])(hcl:∀v∈G,∀s∈v.ss,s.1∈(ao G).map (·.1))(hG64:G.length≤64):
  jq w 7 none [] (fD w.params lo) (execs (gD gN) (eE w.params lo)) ([(x1+937,ap 167 (x2+937)),(x2+937,au w.params k1 k2 k3 k4 t3 t4 (x3+937) .none out fin ep),(x3+937,ae es ep2),(lo+937,df [de w.params U6 q1 (.ref (x1+937))] 1 ⟨[]⟩)]++GO G)
   (X:=Fj) (λ_ _=>True) (λx=>.error (.ref (x.y.m+938))) (λx=>[(lo+937,df [de w.params U6 q1 (.ref (x1+937))] 1 x.σ),(x.y.m+938,ld x.y.m (.ref (x.y.T+937))),(x.y.T+937,iW .none (x.y.L+937) x.y.cs)]):=by
 refine gm (tt:=PySem.W.Fast.tw12563942051412417395 (gD gN) (eE w.params lo)) ?_ _ _ λA R d os hb m0 g tk b outer Z F E N=>?_
 ·rw[←PySem.W.Fast.te12563942051412417395]
 refine da F 22 0x81000000040000040000044 ?_
 intro sS
 refine aw [3] [0,1,2] [(x1+937,ap 167 (x2+937)),(x2+937,au w.params k1 k2 k3 k4 t3 t4 (x3+937) .none out fin ep),(x3+937,ae es ep2)] [] ([(x1+937,ap 167 (x2+937)),(x2+937,au w.params k1 k2 k3 k4 t3 t4 (x3+937) .none out fin ep),(x3+937,ae es ep2)]++GO G) (FL _) ?_
 intro sS
 refine cn (L':=6) (hd':=none) F Z N 0 0 [] ([(x1+937,ap 167 (x2+937)),(x2+937,au w.params k1 k2 k3 k4 t3 t4 (x3+937) .none out fin ep),(x3+937,ae es ep2)]++GO G) [] (λ(yy:k9)=>[]) (λyy=>[(yy.m+938,ld yy.m (.ref (yy.T+937))),(yy.T+937,iW .none (yy.L+937) yy.cs)]) (λyy=>[]) (pW h hne hG hcl hG64) [] 0 (bH 919 (zt w.params) lo) (lo+937) (df [de w.params U6 q1 (.ref (x1+937))] 1 ⟨[]⟩) (by rw[FK]) λyy m1 kk1 g1 σ _=>?_
 intro sS
 exact fx F E 0 0 [0,1,2] ⟨yy,σ⟩ _ [] [] (FL _) (FK _).symm trivial
variable{fes:List DictEntry}{fe m T L:Nat}{sl:Array (Option Value)}{cs:List Value}
theorem BP:Spec w 6 (some (.ref (m+938))) (.handlers (.ref (m+938)) (lL (eG gN)) (eE w.params lo)) [(lo+937,df fes fe sl),(m+938,ld m (.ref (T+937))),(T+937,iW (.ref L) (lo+937) cs)] (X:=Unit) (λ_ _=>True) (λ_=>.ok .brk)
  (λ_=>[(lo+937,df fes fe sl),(m+938,ld m (.ref (T+937))),(T+937,iW (.ref L) (lo+937) cs)]):=by
 refine ak λA R d os hb m0 g tk b Z F E=>?_
 exact fs F E 9 33554432 [0,1,2] (λ_ _ _=>()) (by kernel_rfl) (by kernel_rfl) (by kernel_rfl) (by kernel_rfl) trivial
theorem BQ:Spec w 6 (some (.ref (m+938))) (.handlers (.ref (m+938)) (jb (eG gN)) (eE w.params lo)) [(lo+937,df fes fe sl),(m+938,ld m (.ref (T+937))),(T+937,iW (.ref L) (lo+937) cs)] (X:=Unit) (λ_ _=>True) (λ_=>.ok (.ret (.bool true)))
  (λ_=>[(lo+937,df fes fe sl)]):=by
 refine ak λA R d os hb m0 g tk b Z F E=>?_
 exact fs F E 5 12482 [0] (λ_ _ _=>()) (by kernel_rfl) (by kernel_rfl) (by kernel_rfl) (by kernel_rfl) trivial
end
section
variable{w:World}{x1 x2 x3 lo q1 k1 k2 k3 k4 t3 t4 ep ep2:Nat}{out fin:Int}{G:List Nd}{es:List DictEntry}
theorem xl(h:KV (SK w) es (aH G))(hne:∀v∈G,v.ss≠[])(hG:G≠[])(hcl:∀v∈G,∀s∈v.ss,s.1∈(ao G).map (·.1))(hG64:G.length≤64):
  aR w 7 none [] (fD w.params lo) ([(x1+937,ap 167 (x2+937)),(x2+937,au w.params k1 k2 k3 k4 t3 t4 (x3+937) .none out fin ep),(x3+937,ae es ep2),(lo+937,df [de w.params U6 q1 (.ref (x1+937))] 1 ⟨[]⟩)]++GO G)
   (X:=Unit) (λ_ _=>True) (λ_=>.ok (.ret (.bool true))) (λ_=>[]):=by
 refine gA (C:=λ_=>True) λA hb m0 g d tk os outer nx Z N fk H=>?_
 have e2:mO gN=true:=by kernel_rfl
 obtain⟨t,bb,p',pos,ht1,ht2⟩:=rH e2
 have hwt:Nat.ble (wt (fD w.params lo)) 40=true:=by kernel_rfl
 have hun:Nat.ble (un (fD w.params lo)) 100=true:=by kernel_rfl
 have hff:(A.under (fD w.params lo)).frames=some (eE w.params lo::outer):=by
  show pushEnvs [eE w.params lo] A.frames=_
  rw[pushEnvs_eq,N.fr]
  rfl
 obtain⟨rest,hb2⟩:∃rest,kI=gN::rest:=⟨kI.tail,by kernel_rfl⟩
 show wpOwn _ A _ (do point;match ←(execs kI (eE w.params lo)).onRaise (leaving (eE w.params lo))with|.ret v=>ret v|_=>ret .none) _ _ _
 refine wpOwn_bind (jg ?_)
 refine wpOwn_bind (eC ?_)
 rw[hb2,execs_cons]
 refine wpOwn_bind ?_
 rw[ht1,arm_exec_Try]
 refine wpOwn_bind (lV ?_)
 refine qU (wpOwn_mono (eZ (rest:=[]) (xm h hne hG hcl hG64) Z N fk (by rw[FK];exact H)) (λf' s' h=>?_) λe' s' h=>?_)
 ·obtain⟨_,_,_,_,er,_⟩:=h
  cases er
 obtain⟨x,h2,tk2,g2,er,_,H2⟩:=h
 injection er with er
 subst er
 have H2':aI (bo w) hb m0 h2 ([(x.y.m+938,ld x.y.m (.ref (x.y.T+937))),(x.y.T+937,iW .none (x.y.L+937) x.y.cs),(lo+937,df [de w.params U6 q1 (.ref (x1+937))] 1 x.σ)]++[]) h2.objs.size:=H2.perm (by
  rw[FK,FK]
  exact List.perm_append_comm (l₁:=[(lo+937,df [de w.params U6 q1 (.ref (x1+937))] 1 x.σ)]))
 refine wpAny_mono (sj N hff rfl rfl rfl H2' λh3 T cs σ H3=>?_) (λ_ _ x=>x) λ_ _ x=>x
 have Z':Rm ((A.under (fD w.params lo)).mark (some (.ref (x.y.m+938)))) 6 (some (.ref (x.y.m+938))):=by
  refine⟨rfl,?_,?_⟩
  ·have h1:=Z.d
   have h2:=Nat.le_of_ble_eq_true hwt
   show A.depth+(fD w.params lo).weight≤_
   rw[fJ]
   simp only[DL]at h1⊢
   lia
  ·have h1:=Z.u
   have h2:=Nat.le_of_ble_eq_true hun
   show A.units+(fD w.params lo).cUnits≤_
   rw[gO]
   simp only[UL]at h1⊢
   lia
 have H3':aI (bo w) hb m0 h3 ([(lo+937,df [de w.params U6 q1 (.ref (x1+937))] 1 σ),(x.y.m+938,ld x.y.m (.ref (T+937))),(T+937,iW (.ref (x.y.T+937)) (lo+937) cs)]++[]) h3.objs.size:=H3.perm (List.Perm.swap _ _ _)
 have es1:lL (eG gN)=[.ExceptHandler (some t) none [] p']:=by rw[ht2];rfl
 have es2:jb (eG gN)=[.ExceptHandler none none bb p']:=by rw[ht2];rfl
 have N2:Nz w (A.under (fD w.params lo)) hb m0 [eE w.params lo] outer:=⟨hff,N.ok,N.fs,N.dis⟩
 have L1:=(eR (c':=.handlers (.ref (x.y.m+938)) (lL (eG gN)) (eE w.params lo)) (g:=g2) (d:=d) (tk:=tk2) (os:=os) (BP.toN [eE w.params lo]) Z' N2 hff (bx rfl H3' (.head _) rfl rfl rfl) H3')
 rw[es1]at L1
 refine wpAny_handleBy_cons (codeAny_mono L1 λr' s' h=>?_) (by intro q;cases q)
 obtain⟨_,h4',tk4,g4,rfl,_,H4⟩:=h
 have L2:=(eR (c':=.handlers (.ref (x.y.m+938)) (jb (eG gN)) (eE w.params lo)) (g:=g4) (d:=d) (tk:=tk4) (os:=os) (BQ.toN [eE w.params lo]) Z' N2 hff (bx rfl H4 (.head _) rfl rfl rfl) H4)
 rw[es2]at L2
 refine codeAny_mono L2 λr' s' h=>?_
 obtain⟨x,h5,tk5,g5,rfl,hC5,H5⟩:=h
 refine gf ?_
 show wpOwn _ A _ (pure (Fin.done (.ret (.bool true)))) _ _ _
 exact gf ⟨(),h5,tk5,g5,rfl,trivial,H5.sub (λp hp=>by cases hp) List.nodup_nil⟩
theorem xj(h:KV (SK w) es (aH G))(hne:∀v∈G,v.ss≠[])(hG:G≠[])(hcl:∀v∈G,∀s∈v.ss,s.1∈(ao G).map (·.1))(hG64:G.length≤64):
  aR w 7 none [] (.call (.ref 919) ⟨[.ref (x1+937)],[]⟩) ([(x1+937,ap 167 (x2+937)),(x2+937,au w.params k1 k2 k3 k4 t3 t4 (x3+937) .none out fin ep),(x3+937,ae es ep2)]++GO G)
   (X:=Unit) (λ_ _=>True) (λ_=>.ok (.ret (.bool true))) (λ_=>[]):=by
 have S:=λlo q1=>xl (lo:=lo) (q1:=q1) (x1:=x1) (x2:=x2) (x3:=x3) (k1:=k1) (k2:=k2) (k3:=k3) (k4:=k4) (t3:=t3) (t4:=t4) (ep:=ep) (ep2:=ep2) (out:=out) (fin:=fin) h hne hG hcl hG64
 refine aZ _ _ λA R d os hb m0 g tk b outer Z F E N=>?_
 refine ex F Z 7 1064960 ?_
 intro sS
 exact an F E Z N 0 0 [(x1+937,ap 167 (x2+937)),(x2+937,au w.params k1 k2 k3 k4 t3 t4 (x3+937) .none out fin ep),(x3+937,ae es ep2),(b+937,df [de w.params U6 tk (.ref (x1+937))] 1 ⟨[]⟩)] (GO G) [] (S b tk) [0,1,2,3] (by rw[FK]) (λhp nx H=>⟨trivial,λ_ h=>by cases h⟩) (λn x' _ hC=>⟨x',hC,rfl,λ_ h=>h,id⟩)
end
end
theorem cU(w:World)(x1 x2 x3 a k1 k2 k3 k4 t3 t4:Nat)(S:Str)(t:Tok)(es:List DictEntry)(aH:List (Str×Value))(ep ep2:Nat)(ready:Value)(out fin:Int)(h:KV (SK w) es aH)(hv:valueAt aH S=some (.ref (a+937))):
  Spec w 3 none (.call (.ref 110) ⟨[.ref (x1+937),.str S t],[]⟩) [(x1+937,ap 167 (x2+937)),(x2+937,au w.params k1 k2 k3 k4 t3 t4 (x3+937) ready out fin ep),(x3+937,ae es ep2)]
   (X:=Unit) (λ_ _=>True) (λx=>.ok (.ret (.ref (a+937)))) (λx=>[(x1+937,ap 167 (x2+937)),(x2+937,au w.params k1 k2 k3 k4 t3 t4 (x3+937) ready out fin ep),(x3+937,ae es ep2)]):=by
 refine ak λA R d os hb m0 g tk b Z F E=>?_
 refine ex F Z 11 4363141120 ?_
 intro sS
 refine cx (L':=0) (hd':=none) F Z 31 0x1030c30c2001040000040000044 (il (x:=x3) (ep:=ep2) h (bw S t)) [2] λ_ _ tk' _ _=>?_
 show Gd _ _
 rw[hv]
 exact fs F E 12 16644 [0,1,2] (λ_ _ _=>()) (by kernel_rfl) (by kernel_rfl) (by kernel_rfl) (by kernel_rfl) trivial
theorem ef(w:World)(x1 x2 x3 k1 k2 k3 k4 t3 t4:Nat)(S:Str)(t:Tok)(es:List DictEntry)(aH:List (Str×Value))(ep ep2:Nat)(ready:Value)(out fin:Int)(h:KV (SK w) es aH)(hv:valueAt aH S=none)(hl:aH.length≤sizeLine):
  Spec w 3 none (.call (.ref 110) ⟨[.ref (x1+937),.str S t],[]⟩) [(x1+937,ap 167 (x2+937)),(x2+937,au w.params k1 k2 k3 k4 t3 t4 (x3+937) ready out fin ep),(x3+937,ae es ep2)]
   (X:=Nat×(List DictEntry×Nat)×Tok) (λ_ x=>KV (SK w) x.2.1.1 (stored aH S (.ref (x.1+938)))) (λx=>.ok (.ret (.ref (x.1+938))))
   (λx=>[(x1+937,ap 167 (x2+937)),(x2+937,au w.params k1 k2 k3 k4 t3 t4 (x3+937) ready out fin ep),(x3+937,ae x.2.1.1 x.2.1.2)]++[(x.1+937,ae [] 0),(x.1+938,eg (x.1+937) S t 0 x.2.2 (x.1+940)),(x.1+940,aa [] 0)]):=by
 refine ak λA R d os hb m0 g tk b Z F E=>?_
 refine ex F Z 11 4363141120 ?_
 intro sS
 refine cx (L':=0) (hd':=none) F Z 31 0x1030c30c2001040000040000044 (il (x:=x3) (ep:=ep2) h (bw S t)) [2] λ_ n tk' _ _=>?_
 show Gd _ _
 rw[hv]
 refine ex F Z 70 0x71c71c0000000006006000000000000000000000000000000000000000000100104 ?_
 intro sS
 refine cx (L':=0) (hd':=none) F Z 155 0xc31020010400000400000441801800000001800000000000060060060000061c60060000000060000000000001801801800001871801800000001800000000000060060060000061c7 (dx (x:=x3) (ep:=ep2) (v:=.ref (n+938)) h (bw S t) hl) [2] λy _ tk'' _ hy=>?_
 intro sS
 exact fs F E 11 16644 [0,1,2,4,5,7] (λ_ o _=>(n,y,iO (kP o 5 1))) (by kernel_rfl) (by kernel_rfl) (by kernel_rfl) (by kernel_rfl) hy
theorem yU(w:World)(x1 x2 x3 a1 a2 d1 d2 l1 l2 k1 k2 k3 k4 t3 t4 u1 u2 u3 u4 u5 u6:Nat)(S1 S2:Str)(n1 n2:Int)(vs:List Value)(es:List DictEntry)(aH:List (Str×Value))(ep ep2 ep3:Nat)(h:KV (SK w) es aH)(h1:valueAt aH S1=some (.ref (a1+937)))(h2:valueAt aH S2=some (.ref (a2+937)))(hl:vs.length≤sizeLine):
  Spec w 4 none (.call (.ref 117) ⟨[.ref (x1+937),.str S1 u1,.str S2 u2],[]⟩)
   [(x1+937,ap 167 (x2+937)),(x2+937,au w.params k1 k2 k3 k4 t3 t4 (x3+937) .none 0 0 ep),(x3+937,ae es ep2),(a1+937,eg (d1+937) S1 u3 n1 u4 (l1+937)),(a2+937,eg (d2+937) S2 u5 n2 u6 (l2+937)),(l2+937,aa vs ep3)]
   (X:=Tok) (λ_ _=>True) (λx=>.ok (.ret .none))
   (λx=>[(x1+937,ap 167 (x2+937)),(x2+937,au w.params k1 k2 k3 k4 t3 t4 (x3+937) .none 0 0 ep),(x3+937,ae es ep2),(a1+937,eg (d1+937) S1 u3 (n1+1) x (l1+937)),(a2+937,eg (d2+937) S2 u5 n2 u6 (l2+937)),(l2+937,aa (vs++[.str S1 u1]) (ep3+1))]):=by
 refine ak λA R d os hb m0 g tk b Z F E=>?_
 refine ex F Z 16 35742854184960 ?_
 intro sS
 refine cx (hd':=none) F Z 47 0x202040000001000001000001202001040000040000048 (cU _ x1 x2 x3 a1 k1 k2 k3 k4 t3 t4 S1 u1 es aH ep ep2 .none 0 0 h h1) [0,1,2] λ_ m1 tk' _ _=>?_
 intro sS
 refine cx (hd':=none) F Z 163 0x202040000001000001000001208209247249249247fc71c81001000000001000000000000040040040000041c71c8000100100000000100000000000000000100000108208 (cU _ x1 x2 x3 a2 k1 k2 k3 k4 t3 t4 S2 u2 es aH ep ep2 .none 0 0 h h2) [0,1,2] λ_ m2 tk' _ _=>?_
 intro sS
 refine cx (post:=λ_=>[(l2+937,aa (vs++[.str S1 u1]) (ep3+1))]) (L':=0) (hd':=none) F Z 55 0x8186186140140000000140000000000000000140000148208 (af (x:=l2) (ep:=ep3) hl) [5] λ_ m3 tk' _ _=>?_
 intro sS
 exact fs F E 20 49006770426441 [0,1,2,3,4,5] (λ_ o _=>iO (kP o 3 1)) (by kernel_rfl) (by kernel_rfl) (by kernel_rfl) (by kernel_rfl) trivial
theorem yW(w:World)(x1 x2 x3 k1 k2 k3 k4 t3 t4 u1 u2:Nat)(S1 S2:Str)(es:List DictEntry)(aH:List (Str×Value))(ep ep2:Nat)(h:KV (SK w) es aH)(a2 d2 l2 u5 u6 ep3:Nat)(n2:Int)(vs:List Value)(h1:valueAt aH S1=none)(hl1:aH.length≤sizeLine)(h2:∀v,valueAt (stored aH S1 v) S2=some (.ref (a2+937)))(hl:vs.length≤sizeLine):
  Spec w 4 none (.call (.ref 117) ⟨[.ref (x1+937),.str S1 u1,.str S2 u2],[]⟩) ([(x1+937,ap 167 (x2+937)),(x2+937,au w.params k1 k2 k3 k4 t3 t4 (x3+937) .none 0 0 ep),(x3+937,ae es ep2)]++[(a2+937,eg (d2+937) S2 u5 n2 u6 (l2+937)),(l2+937,aa vs ep3)])
   (X:=Nat×(List DictEntry×Nat)×Tok) (λ_ x=>KV (SK w) x.2.1.1 (stored aH S1 (.ref (x.1+938)))) (λx=>.ok (.ret .none))
   (λx=>([(x1+937,ap 167 (x2+937)),(x2+937,au w.params k1 k2 k3 k4 t3 t4 (x3+937) .none 0 0 ep),(x3+937,ae x.2.1.1 x.2.1.2)]++[(a2+937,eg (d2+937) S2 u5 n2 u6 (l2+937)),(l2+937,aa (vs++[.str S1 u1]) (ep3+1))])++[(x.1+938,eg (x.1+937) S1 u1 1 x.2.2 (x.1+940)),(x.1+940,aa [] 0)]):=by
 refine ak λA R d os hb m0 g tk b Z F E=>?_
 refine ex F Z 16 31274997411840 ?_
 intro sS
 refine cx (hd':=none) F Z 47 0x1c20400000010000010000011c2001040000040000047 (ef _ x1 x2 x3 k1 k2 k3 k4 t3 t4 S1 u1 es _ ep ep2 .none 0 0 h h1 hl1) [0,1,2] λy m1 kk1 _ hC1=>?_
 show Gd _ _
 obtain⟨nn1,⟨e1,q1⟩,tq1⟩:=y
 refine cx (hd':=none) F Z 163 0x1c20400000010000010000011c71cb2c62cb2cb2c6fc61872402400000002400000000000090090090000091861870002402400000002400000000000000002400002471c7 (cU _ x1 x2 x3 a2 k1 k2 k3 k4 t3 t4 S2 u2 e1 _ ep q1 .none 0 0 hC1 (h2 _)) [0,1,2] λ_ m2 kk2 _ _=>?_
 intro sS
 refine cx (post:=λ_=>[(l2+937,aa (vs++[.str S1 u1]) (ep3+1))]) (L':=0) (hd':=none) F Z 55 0x71451451001000000001000000000000000001000001071c7 (af (x:=l2) (ep:=ep3) (vs:=vs) hl) [4] λ_ m3 kk3 _ _=>?_
 intro sS
 exact fs F E 20 57942433641163 [0,1,2,3,4,8,9] (λ_ o _=>(nn1,(e1,q1),iO (kP o 8 1))) (by kernel_rfl) (by kernel_rfl) (by kernel_rfl) (by kernel_rfl) hC1
theorem yV(w:World)(x1 x2 x3 k1 k2 k3 k4 t3 t4 u1 u2:Nat)(S1 S2:Str)(es:List DictEntry)(aH:List (Str×Value))(ep ep2:Nat)(h:KV (SK w) es aH)(a1 d1 l1 u3 u4:Nat)(n1:Int)(h1:valueAt aH S1=some (.ref (a1+937)))(h2:valueAt aH S2=none)(hl2:aH.length≤sizeLine):
  Spec w 4 none (.call (.ref 117) ⟨[.ref (x1+937),.str S1 u1,.str S2 u2],[]⟩) ([(x1+937,ap 167 (x2+937)),(x2+937,au w.params k1 k2 k3 k4 t3 t4 (x3+937) .none 0 0 ep),(x3+937,ae es ep2)]++[(a1+937,eg (d1+937) S1 u3 n1 u4 (l1+937))])
   (X:=Nat×(List DictEntry×Nat)×Tok×Tok) (λ_ x=>KV (SK w) x.2.1.1 (stored aH S2 (.ref (x.1+938)))) (λx=>.ok (.ret .none))
   (λx=>([(x1+937,ap 167 (x2+937)),(x2+937,au w.params k1 k2 k3 k4 t3 t4 (x3+937) .none 0 0 ep),(x3+937,ae x.2.1.1 x.2.1.2)]++[(a1+937,eg (d1+937) S1 u3 (n1+1) x.2.2.1 (l1+937))])++[(x.1+938,eg (x.1+937) S2 u2 0 x.2.2.2 (x.1+940)),(x.1+940,aa [.str S1 u1] 1)]):=by
 refine ak λA R d os hb m0 g tk b Z F E=>?_
 refine ex F Z 16 26807140638720 ?_
 intro sS
 refine cx (hd':=none) F Z 47 0x182040000001000001000001182001040000040000046 (cU _ x1 x2 x3 a1 k1 k2 k3 k4 t3 t4 S1 u1 es _ ep ep2 .none 0 0 h h1) [0,1,2] λ_ m1 kk1 _ _=>?_
 intro sS
 refine cx (hd':=none) F Z 163 0x1820400000010000010000011861871c51c71c71c5fc5146100100000000100000000000004004004000004145146000100100000000100000000000000000100000106186 (ef _ x1 x2 x3 k1 k2 k3 k4 t3 t4 S2 u2 es _ ep ep2 .none 0 0 h h2 hl2) [0,1,2] λy m2 kk2 _ hC2=>?_
 show Gd _ _
 obtain⟨nn2,⟨e2,q2⟩,tq2⟩:=y
 refine cx (post:=λ_=>[(nn2+3+937,aa ([]++[.str S1 u1]) (0+1))]) (L':=0) (hd':=none) F Z 55 0x628a28a240240000000240000000000000000240000246186 (af (x:=nn2+3) (ep:=0) (vs:=[]) (Nat.zero_le _)) [9] λ_ m3 kk3 _ _=>?_
 intro sS
 exact fs F E 20 53265196413383 [0,1,2,3,8,9] (λ_ o _=>(nn2,(e2,q2),iO (kP o 3 1),tq2)) (by kernel_rfl) (by kernel_rfl) (by kernel_rfl) (by kernel_rfl) hC2
theorem yX(w:World)(x1 x2 x3 k1 k2 k3 k4 t3 t4 u1 u2:Nat)(S1 S2:Str)(es:List DictEntry)(aH:List (Str×Value))(ep ep2:Nat)(h:KV (SK w) es aH)(h1:valueAt aH S1=none)(hl1:aH.length≤sizeLine)(h2:∀v,valueAt (stored aH S1 v) S2=none)(hl2:∀v,(stored aH S1 v).length≤sizeLine):
  Spec w 4 none (.call (.ref 117) ⟨[.ref (x1+937),.str S1 u1,.str S2 u2],[]⟩) [(x1+937,ap 167 (x2+937)),(x2+937,au w.params k1 k2 k3 k4 t3 t4 (x3+937) .none 0 0 ep),(x3+937,ae es ep2)]
   (X:=(Nat×Nat)×(List DictEntry×Nat)×Tok×Tok) (λ_ x=>KV (SK w) x.2.1.1 (stored (stored aH S1 (.ref (x.1.1+938))) S2 (.ref (x.1.2+938)))) (λx=>.ok (.ret .none))
   (λx=>[(x1+937,ap 167 (x2+937)),(x2+937,au w.params k1 k2 k3 k4 t3 t4 (x3+937) .none 0 0 ep),(x3+937,ae x.2.1.1 x.2.1.2)]++[(x.1.1+938,eg (x.1.1+937) S1 u1 1 x.2.2.1 (x.1.1+940)),(x.1.1+940,aa [] 0),(x.1.2+938,eg (x.1.2+937) S2 u2 0 x.2.2.2 (x.1.2+940)),(x.1.2+940,aa [.str S1 u1] 1)]):=by
 refine ak λA R d os hb m0 g tk b Z F E=>?_
 refine ex F Z 16 22339283865600 ?_
 intro sS
 refine cx (hd':=none) F Z 47 0x142040000001000001000001142001040000040000045 (ef _ x1 x2 x3 k1 k2 k3 k4 t3 t4 S1 u1 es _ ep ep2 .none 0 0 h h1 hl1) [0,1,2] λy m1 kk1 _ hC1=>?_
 show Gd _ _
 obtain⟨nn1,⟨e1,q1⟩,tq1⟩:=y
 refine cx (hd':=none) F Z 163 0x142040000001000001000001145149244249249244fc41051c01c00000001c00000000000070070070000071041050001c01c00000001c00000000000000001c00001c5145 (ef _ x1 x2 x3 k1 k2 k3 k4 t3 t4 S2 u2 e1 _ ep q1 .none 0 0 hC1 (h2 _) (hl2 _)) [0,1,2] λy m2 kk2 _ hC2=>?_
 show Gd _ _
 obtain⟨nn2,⟨e2,q2⟩,tq2⟩:=y
 refine cx (post:=λ_=>[(nn2+3+937,aa ([]++[.str S1 u1]) (0+1))]) (L':=0) (hd':=none) F Z 55 0x530c30c2c02c00000002c00000000000000002c00002c5145 (af (x:=nn2+3) (ep:=0) (vs:=[]) (Nat.zero_le _)) [11] λ_ m3 kk3 _ _=>?_
 intro sS
 exact fs F E 20 62200859628105 [0,1,2,6,7,10,11] (λ_ o _=>((nn1,nn2),(e2,q2),iO (kP o 6 1),tq2)) (by kernel_rfl) (by kernel_rfl) (by kernel_rfl) (by kernel_rfl) hC2
section
theorem gp{G H:List Nd}(h:G.Perm H):(GO G).Perm (GO H):=by
 induction h with
 |nil=>exact .refl _
 |cons x _ ih=>rw[cB,cB];exact(ih.cons _).cons _
 |swap x y l =>
  rw[cB,cB,cB,cB]
  show([y.info,y.lst]++([x.info,x.lst]++GO l)).Perm ([x.info,x.lst]++([y.info,y.lst]++GO l))
  rw[←FV,←FV]
  exact List.perm_append_comm.append_right _
 |trans _ _ h1 h2=>exact h1.trans h2
noncomputable def fu(x:AN):AN:=(x.1,x.2.1+1,x.2.2)
noncomputable def kG(s:Str)(x:AN):AN:=(x.1,x.2.1,x.2.2++[s])
noncomputable def eL(A:List AN)(s:Str):List AN:=if s∈A.map (·.1)then A else A++[(s,0,[])]
noncomputable def jH(A:List AN)(s1 s2:Str):List AN:=bk (kG s1) s2 (eL (bk fu s1 (eL A s1)) s2)
theorem bY{f:AN→AN}(hf:∀x,(f x).1=x.1)(s:Str)(A:List AN):(bk f s A).map (·.1)=A.map (·.1):=by
 unfold bk
 rw[List.map_map]
 refine List.map_congr_left λx _=>?_
 show(if x.1=s then f x else x).1=x.1
 split
 ·exact hf x
 ·rfl
theorem nB{G:List Nd}{S:Str}(h:S∈(ao G).map (·.1)):∃v rest,G.Perm (v::rest)∧v.S=S∧v∈G:=by
 obtain⟨G₁,v,G₂,rfl,e⟩:=eY h
 exact⟨v,G₁++G₂,List.perm_middle,e,FO _ (.head _)⟩
theorem ga{w:World}{es:List DictEntry}{G:List Nd}(h:KV (SK w) es (aH G)):(G.map (·.S)).Nodup:=by
 have:=h.2.2
 rw[dH]at this
 unfold ao at this
 rw[List.map_map]at this
 exact this
theorem gF{w:World}{es:List DictEntry}{G:List Nd}(h:KV (SK w) es (aH G)){v:Nd}(hv:v∈G):valueAt (aH G) v.S=some (.ref (v.a+937)):=by
 obtain⟨G₁,G₂,rfl⟩:=List.append_of_mem hv
 exact e6 h.2.2
theorem qS{f:Nd→Nd}{S:Str}{l:List Nd}(hf:∀v,v.S≠S→f v=v)(h:S∉l.map (·.S)):l.map f=l:=by
 refine(List.map_congr_left λv hv=>?_).trans (List.map_id' l)
 exact hf v λe=>h (e▸FP (f:=λv:Nd=>v.S) hv)
noncomputable def f1(S:Str)(x:Tok)(v:Nd):Nd:=if v.S=S then{v with n:=v.n+1,t':=x}else v
noncomputable def f2(S:Str)(p:SV)(v:Nd):Nd:=if v.S=S then{v with ss:=v.ss++[p],ep:=v.ep+1}else v
theorem te(S:Str)(x:Tok)(G:List Nd):ao (G.map (f1 S x))=bk fu S (ao G):=by
 unfold ao bk
 rw[List.map_map,List.map_map]
 refine List.map_congr_left λv _=>?_
 show(f1 S x v).abs=if v.S=S then fu v.abs else v.abs
 unfold f1
 split<;>rfl
theorem tf(S:Str)(p:SV)(G:List Nd):ao (G.map (f2 S p))=bk (kG p.1) S (ao G):=by
 unfold ao bk
 rw[List.map_map,List.map_map]
 refine List.map_congr_left λv _=>?_
 show(f2 S p v).abs=if v.S=S then kG p.1 v.abs else v.abs
 unfold f2
 split
 ·show(v.S,v.n,(v.ss++[p]).map (·.1))=_
  rw[FM]
  rfl
 ·rfl
theorem t7(S:Str)(x:Tok)(G:List Nd):aH (G.map (f1 S x))=aH G:=by
 unfold aH
 rw[List.map_map]
 refine List.map_congr_left λv _=>?_
 show((f1 S x v).S,Value.ref ((f1 S x v).a+937))=_
 unfold f1
 split<;>rfl
theorem t8(S:Str)(p:SV)(G:List Nd):aH (G.map (f2 S p))=aH G:=by
 unfold aH
 rw[List.map_map]
 refine List.map_congr_left λv _=>?_
 show((f2 S p v).S,Value.ref ((f2 S p v).a+937))=_
 unfold f2
 split<;>rfl
theorem gw{A:List AN}{s:Str}(h:s∈A.map (·.1)):eL A s=A:=if_pos h
theorem fj{A:List AN}{s:Str}(h:s∉A.map (·.1)):eL A s=A++[(s,0,[])]:=if_neg h
structure mj where
 G:List Nd
 es:List DictEntry
 ep:Nat
noncomputable abbrev fF(P:Params)(x1 x2 x3 k1 k2 k3 k4 t3 t4 ep:Nat):ah:=[(x1+937,ap 167 (x2+937)),(x2+937,au P k1 k2 k3 k4 t3 t4 (x3+937) .none 0 0 ep)]
theorem p4{α:Type}(a b c d:α)(l:List α):(a::b::c::d::l).Perm (a::c::d::b::l):=.cons _ ((List.Perm.swap _ _ _).trans (.cons _ (.swap _ _ _)))
theorem wZ(G:List Nd):(ao G).map (·.1)=G.map (·.S):=by unfold ao;rw[List.map_map];rfl
theorem tJ{S:Str}{x:Tok}{l:List Nd}(h:S∉l.map (·.S)):l.map (f1 S x)=l:=qS (λv hv=>if_neg hv) h
theorem tK{S:Str}{p:SV}{l:List Nd}(h:S∉l.map (·.S)):l.map (f2 S p)=l:=qS (λv hv=>if_neg hv) h
theorem ya{S:Str}{x:Tok}{v:Nd}(h:v.S=S):f1 S x v={v with n:=v.n+1,t':=x}:=if_pos h
theorem yb{S:Str}{p:SV}{v:Nd}(h:v.S=S):f2 S p v={v with ss:=v.ss++[p],ep:=v.ep+1}:=if_pos h
theorem ro(l:List SV)(S:Str)(u:Tok):(l++[(S,u)]).map sv=l.map sv++[.str S u]:=FM
theorem cY{f:AN→AN}{s:Str}{A:List AN}(h:s∉A.map (·.1))(k:Int)(l:List Str):bk f s (A++[(s,k,l)])=A++[f (s,k,l)]:=by
 have:=k0 (f:=f) h
 unfold bk at this⊢
 rw[FM,this]
 show A++[if s=s then f (s,k,l)else(s,k,l)]=_
 rw[if_pos rfl]
theorem nK{f:AN→AN}{s t:Str}{A:List AN}(h:s≠t)(k:Int)(l:List Str):bk f t (A++[(s,k,l)])=bk f t A++[(s,k,l)]:=by
 unfold bk
 rw[FM]
 show _++[if s=t then f (s,k,l)else(s,k,l)]=_
 rw[if_neg h]
section
variable(w:World)(x1 x2 x3 k1 k2 k3 k4 t3 t4 u1 u2 ep ep2:Nat)(S1 S2:Str)(es:List DictEntry)(G:List Nd)
noncomputable abbrev sW:Prop:=Spec w 4 none (.call (.ref 117) ⟨[.ref (x1+937),.str S1 u1,.str S2 u2],[]⟩) (fF w.params x1 x2 x3 k1 k2 k3 k4 t3 t4 ep++[(x3+937,ae es ep2)]++GO G)
   (X:=mj) (λ_ x=>KV (SK w) x.es (aH x.G)∧ao x.G=jH (ao G) S1 S2) (λ_=>.ok (.ret .none))
   (λx=>fF w.params x1 x2 x3 k1 k2 k3 k4 t3 t4 ep++[(x3+937,ae x.es x.ep)]++GO x.G)
variable(h:KV (SK w) es (aH G))(hne:S1≠S2)(hl:G.length+1≤sizeLine)(hs:∀v∈G,v.ss.length≤sizeLine)
include h hne hl hs
theorem v6(c1:S1∈(ao G).map (·.1))(c2:S2∈(ao G).map (·.1)):sW w x1 x2 x3 k1 k2 k3 k4 t3 t4 u1 u2 ep ep2 S1 S2 es G:=by
 obtain⟨v1,r1,p1,e1,m1⟩:=nB c1
 have c2':S2∈(ao r1).map (·.1):=by
  rw[wZ]at c2⊢
  have hm:=(p1.map (·.S)).mem_iff.mp c2
  rw[FR,FY]at hm
  rcases hm with z|z
  ·exact absurd (e1.symm.trans z.symm) hne
  ·exact z
 obtain⟨v2,r2,p2,e2,m2⟩:=nB c2'
 have pG:G.Perm (v1::v2::r2):=p1.trans (p2.cons _)
 have nd:=(pG.map (·.S)).nodup_iff.mp (ga h)
 simp only[FR,List.nodup_cons,FY,not_or]at nd
 rw[e1,e2]at nd
 have m2':v2∈G:=p1.mem_iff.mpr (.tail _ m2)
 have hv1:=gF h m1
 have hv2:=gF h m2'
 rw[e1]at hv1
 rw[e2]at hv2
 have z:=(yU w x1 x2 x3 v1.a v2.a v1.d v2.d v1.l v2.l k1 k2 k3 k4 t3 t4 u1 u2 v1.t v1.t' v2.t v2.t' S1 S2 v1.n v2.n (v2.ss.map sv) es (aH G) ep ep2 v2.ep h hv1 hv2 (by rw[FQ];exact hs v2 m2')).frame (v1.lst::GO r2)
 refine z.convP (Nat.le_refl _) ?_ λn x _=>⟨⟨(G.map (f1 S1 x)).map (f2 S2 (S1,u1)),es,ep2⟩,⟨?_,?_⟩,rfl,?_⟩
 ·refine List.Perm.trans (List.Perm.append_left _ (gp pG)) ?_
  rw[←e1,←e2]
  exact List.Perm.append_left [_,_,_] (p4 v1.info v1.lst v2.info v2.lst (GO r2))
 ·show KV _ es (aH ((G.map (f1 S1 x)).map (f2 S2 (S1,u1))))
  rw[t8,t7]
  exact h
 ·show ao ((G.map (f1 S1 x)).map (f2 S2 (S1,u1)))=_
  rw[tf,te]
  unfold jH
  rw[gw c1,gw (by rw[bY (f:=fu) (λ_=>rfl)];exact c2)]
 ·have pG':=((pG.map (f1 S1 x)).map (f2 S2 (S1,u1)))
  have q1:f2 S2 (S1,u1) (f1 S1 x v1)={v1 with n:=v1.n+1,t':=x}:=by
   rw[ya e1]
   exact if_neg (show¬v1.S=S2 from e1▸hne)
  have q2:f2 S2 (S1,u1) (f1 S1 x v2)={v2 with ss:=v2.ss++[(S1,u1)],ep:=v2.ep+1}:=by
   rw[show f1 S1 x v2=v2 from if_neg (show¬v2.S=S1 from e2▸hne.symm)]
   exact yb e2
  rw[FR,FR,FR,FR,q1,q2,tJ nd.1.2,tK nd.2.1]at pG'
  refine List.Perm.trans (List.Perm.append_left _ (gp pG')) ?_
  have z:=List.Perm.append_left (fF w.params x1 x2 x3 k1 k2 k3 k4 t3 t4 ep++[(x3+937,ae es ep2)]) (p4 (Nd.info {v1 with n:=v1.n+1,t':=x}) v1.lst v2.info (Nd.lst {v2 with ss:=v2.ss++[(S1,u1)],ep:=v2.ep+1}) (GO r2))
  refine z.trans (List.Perm.of_eq ?_)
  unfold Nd.lst Nd.info
  rw[ro,e1,e2]
  rfl
theorem v8(c1:S1∉(ao G).map (·.1))(c2:S2∈(ao G).map (·.1)):sW w x1 x2 x3 k1 k2 k3 k4 t3 t4 u1 u2 ep ep2 S1 S2 es G:=by
 obtain⟨v2,r2,pG,e2,m2⟩:=nB c2
 have nd:=(pG.map (·.S)).nodup_iff.mp (ga h)
 rw[FR,List.nodup_cons,e2]at nd
 have hv2:∀v,valueAt (stored (aH G) S1 v) S2=some (.ref (v2.a+937)):=λv=>by
  rw[cp c1]
  have:=gF h m2
  rw[e2]at this
  unfold valueAt at this⊢
  rw[List.find?_append]
  cases hq:(aH G).find? λkv=>decide (kv.1=S2)with
  |none=>rw[hq]at this;cases this
  |some q=>rw[hq]at this;exact this
 have z:=(yW w x1 x2 x3 k1 k2 k3 k4 t3 t4 u1 u2 S1 S2 es (aH G) ep ep2 h v2.a v2.d v2.l v2.t v2.t' v2.ep v2.n (v2.ss.map sv) (fG c1) (by unfold aH;rw[FQ];lia) hv2 (by rw[FQ];exact hs v2 m2)).frame (GO r2)
 refine z.convP (Nat.le_refl _) ?_ λn x hC=>⟨⟨G.map (f2 S2 (S1,u1))++[⟨S1,x.1+1,x.1,x.1+3,u1,x.2.2,1,[],0⟩],x.2.1.1,x.2.1.2⟩,⟨?_,?_⟩,rfl,?_⟩
 ·refine List.Perm.trans (List.Perm.append_left _ (gp pG)) ?_
  rw[←e2]
  exact FL _
 ·show KV _ x.2.1.1 (aH (G.map (f2 S2 (S1,u1))++_))
  rw[bt,t8]
  rw[cp c1]at hC
  exact hC
 ·show ao (G.map (f2 S2 (S1,u1))++_)=_
  rw[bh,tf]
  unfold jH
  have n2:S2∈(bk fu S1 (ao G++[(S1,0,[])])).map (·.1):=by
   rw[bY (f:=fu) (λ_=>rfl),FM]
   exact FN _ c2
  rw[fj c1,gw n2,cY c1]
  exact(nK hne 1 []).symm
 ·have pG':=pG.map (f2 S2 (S1,u1))
  rw[FR,yb e2,tK nd.1]at pG'
  have pg:=(pG'.append_right [(⟨S1,x.1+1,x.1,x.1+3,u1,x.2.2,1,[],0⟩:Nd)])
  have z:=gp pg
  rw[List.cons_append,cB,cR r2 [(⟨S1,x.1+1,x.1,x.1+3,u1,x.2.2,1,[],0⟩:Nd)]]at z
  refine(List.Perm.append_left _ (z.trans (.cons _ (.cons _ List.perm_append_comm)))).trans (List.Perm.of_eq ?_)
  unfold Nd.lst Nd.info
  rw[ro,e2]
  rfl
theorem v7(c1:S1∈(ao G).map (·.1))(c2:S2∉(ao G).map (·.1)):sW w x1 x2 x3 k1 k2 k3 k4 t3 t4 u1 u2 ep ep2 S1 S2 es G:=by
 obtain⟨v1,r1,pG,e1,m1⟩:=nB c1
 have nd:=(pG.map (·.S)).nodup_iff.mp (ga h)
 rw[FR,List.nodup_cons,e1]at nd
 have hv1:=gF h m1
 rw[e1]at hv1
 have z:=(yV w x1 x2 x3 k1 k2 k3 k4 t3 t4 u1 u2 S1 S2 es (aH G) ep ep2 h v1.a v1.d v1.l v1.t v1.t' v1.n hv1 (fG c2) (by unfold aH;rw[FQ];lia)).frame (v1.lst::GO r1)
 refine z.convP (Nat.le_refl _) ?_ λn x hC=>⟨⟨G.map (f1 S1 x.2.2.1)++[⟨S2,x.1+1,x.1,x.1+3,u2,x.2.2.2,0,[(S1,u1)],1⟩],x.2.1.1,x.2.1.2⟩,⟨?_,?_⟩,rfl,?_⟩
 ·refine List.Perm.trans (List.Perm.append_left _ (gp pG)) ?_
  rw[←e1]
  exact FL _
 ·show KV _ x.2.1.1 (aH (G.map (f1 S1 x.2.2.1)++_))
  rw[bt,t7]
  rw[cp c2]at hC
  exact hC
 ·show ao (G.map (f1 S1 x.2.2.1)++_)=_
  rw[bh,te]
  unfold jH
  have n2:S2∉(bk fu S1 (ao G)).map (·.1):=by rw[bY (f:=fu) (λ_=>rfl)];exact c2
  rw[gw c1,fj n2,cY n2]
  rfl
 ·have pG':=pG.map (f1 S1 x.2.2.1)
  rw[FR,ya e1,tJ nd.1]at pG'
  have pg:=(pG'.append_right [(⟨S2,x.1+1,x.1,x.1+3,u2,x.2.2.2,0,[(S1,u1)],1⟩:Nd)])
  have z:=gp pg
  rw[List.cons_append,cB,cR r1 [(⟨S2,x.1+1,x.1,x.1+3,u2,x.2.2.2,0,[(S1,u1)],1⟩:Nd)]]at z
  have z2:(Nd.lst {v1 with n:=v1.n+1,t':=x.2.2.1}::(GO r1++GO [(⟨S2,x.1+1,x.1,x.1+3,u2,x.2.2.2,0,[(S1,u1)],1⟩:Nd)])).Perm (GO [(⟨S2,x.1+1,x.1,x.1+3,u2,x.2.2.2,0,[(S1,u1)],1⟩:Nd)]++(v1.lst::GO r1)):=(List.Perm.cons _ List.perm_append_comm).trans List.perm_middle.symm
  refine(List.Perm.append_left _ (z.trans (.cons _ z2))).trans (List.Perm.of_eq ?_)
  unfold Nd.info
  rw[e1]
  rfl
theorem v9(c1:S1∉(ao G).map (·.1))(c2:S2∉(ao G).map (·.1)):sW w x1 x2 x3 k1 k2 k3 k4 t3 t4 u1 u2 ep ep2 S1 S2 es G:=by
 have hv:∀v,valueAt (stored (aH G) S1 v) S2=none:=λv=>by
  rw[cp c1]
  have:=fG c2
  unfold valueAt at this⊢
  rw[List.find?_append]
  cases hq:(aH G).find? λkv=>decide (kv.1=S2)with
  |none =>
   rw[Option.none_or,List.find?_cons,decide_eq_false hne]
   rfl
  |some q=>rw[hq]at this;cases this
 have z:=(yX w x1 x2 x3 k1 k2 k3 k4 t3 t4 u1 u2 S1 S2 es (aH G) ep ep2 h (fG c1) (by unfold aH;rw[FQ];lia) hv (λv=>by rw[cp c1,FZ];unfold aH;rw[FQ];exact hl)).frame (GO G)
 refine z.convP (Nat.le_refl _) (FL _) λn x hC=>⟨⟨G++[⟨S1,x.1.1+1,x.1.1,x.1.1+3,u1,x.2.2.1,1,[],0⟩,⟨S2,x.1.2+1,x.1.2,x.1.2+3,u2,x.2.2.2,0,[(S1,u1)],1⟩],x.2.1.1,x.2.1.2⟩,⟨?_,?_⟩,rfl,?_⟩
 ·show KV _ x.2.1.1 (aH (G++_))
  have e:stored (stored (aH G) S1 (.ref (x.1.1+938))) S2 (.ref (x.1.2+938))=aH (G++[⟨S1,x.1.1+1,x.1.1,x.1.1+3,u1,x.2.2.1,1,[],0⟩,⟨S2,x.1.2+1,x.1.2,x.1.2+3,u2,x.2.2.2,0,[(S1,u1)],1⟩]):=by
   rw[cp c1]
   have c3:S2∉(ao (G++[(⟨S1,x.1.1+1,x.1.1,x.1.1+3,u1,x.2.2.1,1,[],0⟩:Nd)])).map (·.1):=by
    rw[bh,FM,F0]
    rintro(q|q)
    ·exact c2 q
    ·exact hne (FW.mp q).symm
   have:=cp c3 (.ref (x.1.2+938))
   rw[bt]at this
   rw[show[(S1,Value.ref (x.1.1+938))]=aH [(⟨S1,x.1.1+1,x.1.1,x.1.1+3,u1,x.2.2.1,1,[],0⟩:Nd)]from rfl,this,bt,FV]
   rfl
  rw[←e]
  exact hC
 ·show ao (G++_)=_
  rw[bh]
  unfold jH
  have n2:S2∉(bk fu S1 (ao G++[(S1,0,[])])).map (·.1):=by
   rw[bY (f:=fu) (λ_=>rfl),FM,F0]
   rintro(q|q)
   ·exact c2 q
   ·exact hne (FW.mp q).symm
  rw[fj c1,fj n2,cY n2,cY c1,FV]
  rfl
 ·have z:(GO G++GO [(⟨S1,x.1.1+1,x.1.1,x.1.1+3,u1,x.2.2.1,1,[],0⟩:Nd),⟨S2,x.1.2+1,x.1.2,x.1.2+3,u2,x.2.2.2,0,[(S1,u1)],1⟩]).Perm (GO [(⟨S1,x.1.1+1,x.1.1,x.1.1+3,u1,x.2.2.1,1,[],0⟩:Nd),⟨S2,x.1.2+1,x.1.2,x.1.2+3,u2,x.2.2.2,0,[(S1,u1)],1⟩]++GO G):=List.perm_append_comm
  rw[cR]
  exact List.Perm.append_left _ z
theorem xY:sW w x1 x2 x3 k1 k2 k3 k4 t3 t4 u1 u2 ep ep2 S1 S2 es G:=by
 by_cases c1:S1∈(ao G).map (·.1)
 ·by_cases c2:S2∈(ao G).map (·.1)
  ·exact v6 w x1 x2 x3 k1 k2 k3 k4 t3 t4 u1 u2 ep ep2 S1 S2 es G h hne hl hs c1 c2
  ·exact v7 w x1 x2 x3 k1 k2 k3 k4 t3 t4 u1 u2 ep ep2 S1 S2 es G h hne hl hs c1 c2
 ·by_cases c2:S2∈(ao G).map (·.1)
  ·exact v8 w x1 x2 x3 k1 k2 k3 k4 t3 t4 u1 u2 ep ep2 S1 S2 es G h hne hl hs c1 c2
  ·exact v9 w x1 x2 x3 k1 k2 k3 k4 t3 t4 u1 u2 ep ep2 S1 S2 es G h hne hl hs c1 c2
end
end
noncomputable def fg(A:List AN)(n:Nat):Prop:=A.length≤n∧∀a∈A,a.2.2.length≤n
theorem ii{A:List AN}{n:Nat}(s:Str)(h:fg A n):fg (eL A s) (n+1):=by
 unfold eL
 split
 ·exact⟨Nat.le_succ_of_le h.1,λa ha=>Nat.le_succ_of_le (h.2 a ha)⟩
 ·refine⟨by rw[FZ];exact Nat.succ_le_succ h.1,λa ha=>?_⟩
  rcases F0.mp ha with q|q
  ·exact Nat.le_succ_of_le (h.2 a q)
  ·cases FW.mp q
   exact Nat.zero_le _
theorem lB{A:List AN}{n k:Nat}{f:AN→AN}(hf:∀x,(f x).2.2.length≤x.2.2.length+k)(s:Str)(h:fg A n):fg (bk f s A) (n+k):=by
 unfold bk
 refine⟨by rw[FQ];exact Nat.le_add_right_of_le h.1,λa ha=>?_⟩
 obtain⟨x,hx,rfl⟩:=FX.mp ha
 have:=h.2 x hx
 split
 ·have:=hf x
  lia
 ·lia
theorem lA{A:List AN}{n:Nat}(s1 s2:Str)(h:fg A n):fg (jH A s1 s2) (n+3):=by
 unfold jH
 have h1:=ii s1 h
 have h2:=lB (f:=fu) (k:=0) (λx=>Nat.le_refl _) s1 h1
 have h3:=ii s2 h2
 exact lB (f:=kG s1) (k:=1) (λx=>by show(x.2.2++[s1]).length≤_;rw[FZ];exact Nat.le_refl _) s2 h3
noncomputable def cE:List (SV×SV)→List SV
 |[]=>[]
 |(a,b)::r=>a::b::cE r
noncomputable def iY(A:List AN)(r:List (SV×SV)):List AN:=r.foldl (λA p=>jH A p.1.1 p.2.1) A
theorem kf{i:Int}(h0:0≤i)(h:i<1000):Builtin.List.listFitsIndex i=true:=by
 unfold Builtin.List.listFitsIndex
 rw[Bool.and_eq_true]
 exact⟨decide_eq_true (by lia),decide_eq_true (by lia)⟩
theorem lM{i n:Nat}(h:i<n):seqIndex? (i:Int) n=some i:=by
 unfold seqIndex?
 simp
 lia
structure Ap where
 G:List Nd
 es:List DictEntry
 e2:Nat
 o:k5
 ee:Nat
 it:Obj
noncomputable abbrev Bi(P:Params):k5→List DictEntry
 |none=>[]
 |some (q,z)=>[de P (u [107]) q z]
noncomputable abbrev zK(P:Params)(y1 lo:Nat):Code:=cF (br (aE (aj 40)) 1) (.ref (y1+937)) (bH 912 (BK P) lo)
noncomputable abbrev xy(P:Params)(lo y x1 q1 q2:Nat)(o:k5)(ee:Nat):Addr×Obj:=(lo+937,e7 ([de P AS q1 (.ref (y+937)),de P U6 q2 (.ref (x1+937))]++Bi P o) ee)
theorem xz{w:World}{x1 x2 x3 lo y y1 q1 q2 k1 k2 k3 k4 t3 t4 ep ep4:Nat}{ps:List SV}:∀(rem:List (SV×SV))(i:Nat)(o:k5)(ee ep2 n:Nat)(es:List DictEntry)(G:List Nd),
  ps.drop i=cE rem→i+2*rem.length≤100→(∀p∈rem,p.1.1≠p.2.1)→KV (SK w) es (aH G)→fg (ao G) n→n+3*rem.length≤1000→
  Spec w 5 none (zK w.params y1 lo) ([(y1+937,bP (i:Nat) (rem.length:Nat) (2:Nat)),xy w.params lo y x1 q1 q2 o ee,(y+937,aa (ps.map sv) ep4),(x1+937,ap 167 (x2+937)),(x2+937,au w.params k1 k2 k3 k4 t3 t4 (x3+937) .none 0 0 ep),(x3+937,ae es ep2)]++GO G)
   (X:=Ap) (λ_ x=>KV (SK w) x.es (aH x.G)∧ao x.G=iY (ao G) rem) (λ_=>.ok .next)
   (λx=>[(y1+937,x.it),xy w.params lo y x1 q1 q2 x.o x.ee,(y+937,aa (ps.map sv) ep4),(x1+937,ap 167 (x2+937)),(x2+937,au w.params k1 k2 k3 k4 t3 t4 (x3+937) .none 0 0 ep),(x3+937,ae x.es x.e2)]++GO x.G):=by
 intro rem
 induction rem with
 |nil =>
  intro i o ee ep2 n es G hd hi hne h hb hn
  refine aA _ _ λA R d os hb m0 g tk b Z F E=>?_
  rcases o with _|⟨q3,z1⟩
  ·exact fx F E 15 8606978113 [0,1,2,3,4,5] ⟨G,es,ep2,none,ee,bP (i:Nat) (0:Nat) (2:Nat)⟩ _ (GO G) [] (by rw[FK]) rfl ⟨h,rfl⟩
  ·exact fx F E 15 8606978113 [0,1,2,3,4,5] ⟨G,es,ep2,some (q3,z1),ee,bP (i:Nat) (0:Nat) (2:Nat)⟩ _ (GO G) [] (by rw[FK]) rfl ⟨h,rfl⟩
 |cons p rem ih =>
  intro i o ee ep2 n es G hd hi hne h hbd hn
  obtain⟨p1,p2⟩:=p
  obtain⟨hx1,hd1⟩:=aN hd
  obtain⟨hx2,hd2⟩:=aN hd1
  have hy1:(ps.map sv)[i]?=some (sv p1):=by rw[List.getElem?_map,hx1];rfl
  have hy2:(ps.map sv)[i+1]?=some (sv p2):=by rw[List.getElem?_map,hx2];rfl
  have l1:=(List.getElem?_eq_some_iff.mp hy1).1
  have l2:=(List.getElem?_eq_some_iff.mp hy2).1
  rw[FT]at hi hn
  have hf1:Builtin.List.listFitsIndex ((i:Nat):Int)=true:=kf (by lia) (by lia)
  have hf2:Builtin.List.listFitsIndex ((i:Nat)+1:Int)=true:=kf (by lia) (by lia)
  have hk1:seqIndex? ((i:Nat):Int) (ps.map sv).length=some i:=lM l1
  have hk2:seqIndex? ((i:Nat)+1:Int) (ps.map sv).length=some (i+1):=by
   have:=lM l2
   rwa[show(((i+1:Nat)):Int)=((i:Nat):Int)+1 from by lia]at this
  obtain⟨m,hm⟩:∃m,rem.length=m:=⟨_,rfl⟩
  have ih:=λo ee ep2 es G=>ih (i+2) o ee ep2 (n+3) es G hd2 (by lia) (λp hp=>hne p (.tail _ hp))
  have hne1:p1.1≠p2.1:=hne (p1,p2) (.head _)
  have hl:G.length+1≤sizeLine:=by
   have:=hbd.1
   unfold ao at this
   rw[FQ]at this
   rw[sizeLine_eq]
   lia
  have hs:∀v∈G,v.ss.length≤sizeLine:=λv hv=>by
   have:=hbd.2 v.abs (FP hv)
   have e:v.abs.2.2.length=v.ss.length:=by unfold Nd.abs;rw[FQ]
   rw[e]at this
   rw[sizeLine_eq]
   lia
  rw[FT,hm]
  rw[hm]at ih
  have hne:=hne1
  refine aA _ _ λA R d os hb m0 g tk b Z F E=>?_
  rcases o with _|⟨q3,z1⟩
  ·skip
   refine cx (L':=0) (hd':=none) F Z 2 1 (cy (y:=y1) (i:=i) (m:=m) (st:=2)) [0] λt5 m1 kk1 g1 _=>?_
   intro sS
   refine cx (L':=0) (hd':=none) F Z 35 0x30c3082144000000100000100000102082 (dI (x:=y) (ep:=ep4) (i:=(i:Nat)) (u:=t5) hf1 hk1 hy1) [2] λ_ m2 kk2 g2 _=>?_
   intro sS
   refine cx (L':=0) (hd':=none) F Z 14 51130498 (dI (x:=y) (ep:=ep4) (i:=(i:Nat)+1) (u:=kk2+1) hf2 hk2 hy2) [2] λ_ m3 kk3 g3 _=>?_
   intro sS
   refine cf (L':=4) (hd':=none) F Z 2 0 ((fF w.params x1 x2 x3 k1 k2 k3 k4 t3 t4 ep++[(x3+937,ae es ep2)])) (GO G) ([]) (λ(x:mj)=>(fF w.params x1 x2 x3 k1 k2 k3 k4 t3 t4 ep++[(x3+937,ae x.es x.ep)])) (λ(x:mj)=>[]) (λ(x:mj)=>GO x.G) (xY _ x1 x2 x3 k1 k2 k3 k4 t3 t4 p1.2 p2.2 ep ep2 p1.1 p2.1 es G h hne hl hs) [3,4,5] (by rw[FK]) λ(x:mj)m4 kk4 g4 hC=>?_
   intro sS
   have hb':fg (ao x.G) (n+3):=hC.2▸lA p1.1 p2.1 hbd
   exact ax F E Z 1 0 _ (GO x.G) [] (ih (some (kk1,.int (i:Nat) t5)) (ee+1) x.ep x.es x.G hC.1 hb' (by lia)) [0,1,2,3,4,5] (FL _) (λ_ x' _ hC'=>⟨x',⟨hC'.1,hC'.2.trans (by rw[hC.2];rfl)⟩,rfl,λ_ h=>h,id⟩)
  ·skip
   refine cx (L':=0) (hd':=none) F Z 2 1 (cy (y:=y1) (i:=i) (m:=m) (st:=2)) [0] λt5 m1 kk1 g1 _=>?_
   intro sS
   refine cx (L':=0) (hd':=none) F Z 35 0x30c3082144000000100000100000102082 (dI (x:=y) (ep:=ep4) (i:=(i:Nat)) (u:=t5) hf1 hk1 hy1) [2] λ_ m2 kk2 g2 _=>?_
   intro sS
   refine cx (L':=0) (hd':=none) F Z 14 51130498 (dI (x:=y) (ep:=ep4) (i:=(i:Nat)+1) (u:=kk2+1) hf2 hk2 hy2) [2] λ_ m3 kk3 g3 _=>?_
   intro sS
   refine cf (L':=4) (hd':=none) F Z 2 0 ((fF w.params x1 x2 x3 k1 k2 k3 k4 t3 t4 ep++[(x3+937,ae es ep2)])) (GO G) ([]) (λ(x:mj)=>(fF w.params x1 x2 x3 k1 k2 k3 k4 t3 t4 ep++[(x3+937,ae x.es x.ep)])) (λ(x:mj)=>[]) (λ(x:mj)=>GO x.G) (xY _ x1 x2 x3 k1 k2 k3 k4 t3 t4 p1.2 p2.2 ep ep2 p1.1 p2.1 es G h hne hl hs) [3,4,5] (by rw[FK]) λ(x:mj)m4 kk4 g4 hC=>?_
   intro sS
   have hb':fg (ao x.G) (n+3):=hC.2▸lA p1.1 p2.1 hbd
   exact ax F E Z 1 0 _ (GO x.G) [] (ih (some (q3,.int (i:Nat) t5)) ee x.ep x.es x.G hC.1 hb' (by lia)) [0,1,2,3,4,5] (FL _) (λ_ x' _ hC'=>⟨x',⟨hC'.1,hC'.2.trans (by rw[hC.2];rfl)⟩,rfl,λ_ h=>h,id⟩)
noncomputable abbrev fC(a b c:Int)(t u v:Tok):Obj:=⟨.type "range",none,.fields ⟨[.int a t,.int b u,.int c v]⟩,⟨[]⟩⟩
theorem dY{w:World}{L:Nat}{hd:Option Value}{r:Nat}{a b c:Int}{t u v:Tok}{n:Int}(hs:Builtin.Range.small a b c=true)(hn:Builtin.Range.rangeSize a b c=n):Spec w L hd (.call (.builtin "range.__iter__") ⟨[.ref (r+937)],[]⟩) [(r+937,fC a b c t u v)] (X:=Nat) (λ_ _=>True) (λn=>.ok (.ret (.ref (n+937)))) (λm=>[(r+937,fC a b c t u v)]++[(m+937,bP a n c)]):=
 aq F.slot_range_iter F.entry_range_iter (F.args_range_iter_1 _) ((AutoRange.range___iter___range_1 (r+937) a b c t u v (by unfold Builtin.Range.small at hs;simp[hs])).inModel pw w) λA hp g d tk os hA hst hpre nd=>by
  have h:=hpre _ (.head _)
  obtain⟨m,hm⟩:∃m,hp.objs.size=m+937:=⟨hp.objs.size-937,by have:=aV w hp hst;omega⟩
  have lr:r+937<hp.objs.size:=Heap.lt_size h
  unfold Builtin.Range.small at hs
  refine⟨⟨_,h,rfl⟩,h,?_⟩
  rw[if_pos hs,hn,hm]
  refine⟨m,_,tk,g,rfl,trivial,?_,?_,?_,?_,?_⟩
  ·intro p hp'
   simp only[List.cons_append,List.nil_append,FY,FU,or_false]at hp'
   rcases hp' with rfl|rfl
   ·exact Heap.get?_push_of_some _ h
   ·rw[←hm]
    exact Heap.get?_push_size (o:=bP a n c) _ rfl
  ·intro p hp'
   simp only[List.cons_append,List.nil_append,FY,FU,or_false]at hp'
   rcases hp' with rfl|rfl
   ·exact .inl (.head _)
   ·exact .inr (Nat.le_refl _)
  ·simp only[List.cons_append,List.nil_append,FR,List.map_nil,List.nodup_cons,FY,FU,or_false,not_false_eq_true,List.nodup_nil,and_true]
   exact Nat.ne_of_lt (hm▸lr)
  ·intro b' o hb' hm'
   exact a6 (Heap.get?_push_of_some _ hb')
  ·rw[Heap.size_push,hm]
   exact Nat.le_succ _
theorem ei{w:World}{L:Nat}{hd:Option Value}{b:Array UInt8}{t:Tok}{n:Nat}(hn:b.size=n)(hl:n≤1000):Spec w L hd (.call (.builtin "len") ⟨[.bytes b t],[]⟩) [] (X:=Tok) (λ_ _=>True) (λk=>.ok (.ret (.int (n:Nat) k))) (λ_=>[]++[]):=
 kQ (by kernel_rfl) plain_len entry_len (args_len1 _) λA hp g d tk os Z hst hpre nd=>fq (wpAny_len_body (typeIs_bytes _ b t) FB.slot_bytes_len FB.entry_bytes_len (FB.args_bytes_len_1 _) (hn▸gives_bytes_len b t) (by lia) (by lia)
  ⟨_,hp,_,g,rfl,trivial,hpre,λp h=>absurd h FU,nd,λb o e _=>a6 e,Nat.le_refl _⟩)
theorem pY{w:World}{L:Nat}{hd:Option Value}{a b c:Int}{t u v:Tok}(hc:c≠0)(hp:Builtin.divisionGoesByPylong (b-a) c=false):Spec w L hd (.call (.builtin "range.__new__") ⟨[.type "range",.int a t,.int b u,.int c v],[]⟩) [] (X:=Nat) (λ_ _=>True) (λm=>.ok (.ret (.ref (m+937)))) (λm=>[]++[(m+937,fC a b c t u v)]):=λA h g d tk os Z hst hpre hoff nd=>by
 obtain⟨m,hm⟩:∃m,h.objs.size=m+937:=⟨h.objs.size-937,by have:=aV w h hst;omega⟩
 refine codeAny_call_builtin (by decide +kernel) F.entry_range_new ?_
 rw[F.newCall_range_3]
 refine wpAny_pure ((range_new_3_in a b c t u v (by simpa using hc)) A _ _ ⟨.inl hp,?_⟩)
 rw[hm]
 refine⟨m,_,tk,g,rfl,trivial,?_,?_,?_,?_,?_⟩
 ·intro p hp'
  cases FW.mp hp'
  rw[←hm]
  exact Heap.get?_push_size _ rfl
 ·intro p hp'
  cases FW.mp hp'
  exact .inr (hm▸Nat.le_refl _)
 ·simp
 ·exactλb' o hb' _=>a6 (Heap.get?_push_of_some _ hb')
 ·rw[Heap.size_push]
  exact Nat.le_succ _
theorem kH{w:World}{a b c:Int}{t u v:Tok}(hc:c≠0)(hp:Builtin.divisionGoesByPylong (b-a) c=false):Spec w 1 none (.call (.type "range") ⟨[.int a t,.int b u,.int c v],[]⟩) [] (X:=Nat) (λ_ _=>True) (λm=>.ok (.ret (.ref (m+937)))) (λm=>[]++[(m+937,fC a b c t u v)]):=by
 obtain⟨v',b1,b2,b3,rfl⟩:=al w
 refine ak λA R d os hb m0 g tk b' Z F E=>?_
 refine cx (L':=0) (hd':=none) F Z 1 0 (pY (a:=a) (b:=b) (c:=c) (t:=t) (u:=u) (v:=v) hc hp) [] λm m1 kk1 g1 _=>?_
 intro sS
 exact fx F E 7 266305 [0] m _ [] [] (FL _) (FK _).symm trivial
theorem gj{m wd n:Nat}(hn:n=m*wd)(h0:0<wd)(hm:n≤1000)(hw:wd≤1000):Builtin.Range.small 0 (n:Nat) (wd:Nat)=true∧Builtin.Range.rangeSize 0 (n:Nat) (wd:Nat)=(m:Nat):=by
 have hs:Builtin.Range.rangeSize 0 (n:Nat) (wd:Nat)=(m:Nat):=by
  unfold Builtin.Range.rangeSize
  rw[if_pos (by lia)]
  rcases m with _|m
  ·rw[if_neg (by subst hn;simp)];rfl
  ·have h1:0<n:=by rw[hn];exact Nat.mul_pos (Nat.succ_pos _) h0
   rw[if_pos (by lia)]
   have e:((n:Int)-0-1)=((m*wd+(wd-1):Nat):Int):=by
    have:n=m*wd+wd:=by rw[hn,Nat.succ_mul]
    lia
   rw[e,←Int.natCast_ediv,Nat.add_comm,Nat.add_mul_div_right _ _ h0,Nat.div_eq_of_lt (by lia)]
   lia
 refine⟨?_,hs⟩
 unfold Builtin.Range.small
 rw[hs]
 have hmn:m≤n:=by rw[hn];exact Nat.le_mul_of_pos_right _ h0
 have hf:∀x:Int,-2000≤x→x≤2000→Builtin.Range.rangeFitsLong x=true:=λx h1 h2=>by
  unfold Builtin.Range.rangeFitsLong
  simp
  lia
 rw[hf 0 (by lia) (by lia),hf (n:Nat) (by lia) (by lia),hf (wd:Nat) (by lia) (by lia),hf (m:Nat) (by lia) (by lia),if_pos (by lia),hf _ (by lia) (by lia)]
 simp
section
structure fb where
 x1:Nat
 x2:Nat
 x3:Nat
 k1:Nat
 k2:Nat
 k3:Nat
 k4:Nat
 t3:Nat
 t4:Nat
 G:List Nd
 es:List DictEntry
 e2:Nat
noncomputable abbrev xW(w:World)(y ep4:Nat)(ps:List SV)(ar:List (SV×SV)):Prop:=Spec w 6 none (.call (.ref 912) ⟨[.ref (y+937)],[]⟩) [(y+937,aa (ps.map sv) ep4)] (X:=fb) (λ_ x=>KV (SK w) x.es (aH x.G)∧ao x.G=iY [] ar) (λx=>.ok (.ret (.ref (x.x1+937))))
 (λx=>[(y+937,aa (ps.map sv) ep4),(x.x1+937,ap 167 (x.x2+937)),(x.x2+937,au w.params x.k1 x.k2 x.k3 x.k4 x.t3 x.t4 (x.x3+937) .none 0 0 4),(x.x3+937,ae x.es x.e2)]++GO x.G)
section
variable{w:World}{y ep4:Nat}{ps:List SV}{ar:List (SV×SV)}
theorem iq:∀r:List (SV×SV),(cE r).length=2*r.length
 |[]=>rfl
 |_::r=>by show(cE r).length+1+1=2*(r.length+1);rw[iq r];lia
theorem vm(hps:ps=cE ar)(ha:ar.length≤30)(hne:∀p∈ar,p.1.1≠p.2.1):xW w y ep4 ps ar:=by
 obtain⟨n,hn⟩:∃n,(ps.map sv).length=n:=⟨_,rfl⟩
 obtain⟨h,hh⟩:∃h,ar.length=h:=⟨_,rfl⟩
 have hnh:n=h*2:=by rw[←hn,FQ,hps,iq,hh,Nat.mul_comm]
 have hl:(ps.map sv).length≤sizeLine:=by rw[hn,sizeLine_eq];lia
 have hpy:Builtin.divisionGoesByPylong ((n:Nat)-0) 2=false:=PyProof.noPylong_small (by lia)
 have hrs:Builtin.Range.small 0 (n:Nat) 2=true∧Builtin.Range.rangeSize 0 (n:Nat) 2=(h:Nat):=gj (m:=h) (wd:=2) (n:=n) (by lia) (by lia) (by lia) (by lia)
 have S:=λy1 lo x1 x2 x3 q1 q2 k1 k2 k3 k4 t3 t4=>xz (w:=w) (ps:=ps) (y:=y) (ep:=4) (ep4:=ep4) (y1:=y1) (lo:=lo) (x1:=x1) (x2:=x2) (x3:=x3) (q1:=q1) (q2:=q2) (k1:=k1) (k2:=k2) (k3:=k3) (k4:=k4) (t3:=t3) (t4:=t4) ar 0 none 2 0 0 [] [] hps (by lia) hne pI ⟨Nat.le_refl _,λ_ h=>by cases h⟩ (by lia)
 rw[hh]at S
 clear hps ha hne hnh hh
 refine ak λA R d os hb m0 g tk b Z F E=>?_
 refine ex F Z 7 532480 ?_
 intro sS
 refine ex F Z 57 0x145145000000000004004000000000000000000000000000000000000 ?_
 intro sS
 refine cx (L':=0) (hd':=none) F Z 140 0x800000020850c30c01000001001001000001050c30c01000001001001000001050c30c01000001001001000001050c30c0100000100100100000105 (gV (x:=y) (ep:=ep4) hl hn) [0] λt5 m1 kk1 g1 _=>?_
 intro sS
 refine cx (L':=1) (hd':=none) F Z 3 0 (kH (a:=0) (b:=(n:Nat)) (c:=2) (t:=tk+14) (u:=t5) (v:=kk1+0) (by decide) hpy) [] λrg m2 kk2 g2 _=>?_
 intro sS
 refine cx (post:=λri=>[(rg+937,fC 0 (n:Nat) 2 (tk+14) (t5+0) (kk1+0))]++[(ri+937,bP (0:Nat) (h:Nat) (2:Nat))]) (L':=0) (hd':=none) F Z 5 258503 (dY (r:=rg) (a:=0) (b:=(n:Nat)) (c:=2) (n:=(h:Nat)) hrs.1 hrs.2) [6] λri m3 kk3 g3 _=>?_
 intro sS
 refine cf (L':=5) (hd':=none) F Z 1 8 ([(ri+937,bP (0:Nat) (h:Nat) (2:Nat)),xy w.params b y (b+2) tk (tk+13) none 2,(y+937,aa (ps.map sv) ep4),(b+939,ap 167 (b+938)),(b+938,au w.params (tk+4) (tk+6) (tk+9) (tk+12) (tk+7) (tk+10) (b+941) .none 0 0 4),(b+941,ae [] 0)]) (GO []) ([]) (λ(x:Ap)=>[(ri+937,x.it),xy w.params b y (b+2) tk (tk+13) x.o x.ee,(y+937,aa (ps.map sv) ep4),(b+939,ap 167 (b+938)),(b+938,au w.params (tk+4) (tk+6) (tk+9) (tk+12) (tk+7) (tk+10) (b+941) .none 0 0 4),(b+941,ae x.es x.e2)]) (λ(x:Ap)=>[]) (λ(x:Ap)=>GO x.G) (S ri b (b+2) (b+1) (b+4) tk (tk+13) (tk+4) (tk+6) (tk+9) (tk+12) (tk+7) (tk+10)) [7,1,0,3,2,5] (FL _) λ(x:Ap)m4 kk4 g4 hC=>?_
 intro sS
 exact fx F E 3 2 [0,3,2,5] ⟨b+2,b+1,b+4,tk+4,tk+6,tk+9,tk+12,tk+7,tk+10,x.G,x.es,x.e2⟩ _ (GO x.G) [] (FL _) rfl hC
end
end
noncomputable abbrev qB(P:Params)(x1 x3 n1 q1 q2 q3:Nat):List DictEntry:=[de P U2 q1 (.ref (x1+937)),de P (u [114,101,115,117,108,116]) q2 (.ref (n1+937)),de P Cf q3 (.ref (x3+937))]
noncomputable abbrev qD(P:Params):Option (Tok×Value)→List DictEntry
 |none=>[]
 |some (q,z)=>[de P yP q z]
noncomputable def ye(k:Tok)(v:Value):Option (Tok×Value)→Option (Tok×Value)|none=>some (k,v)|some (q,_)=>some (q,v)
noncomputable def E9(e:Nat):Option (Tok×Value)→Nat|none=>e+1|some _=>e
structure sX where
 G:List Nd
 o:Option (Tok×Value)
 ep:Nat
 j:Nat
noncomputable def ba(l:List Str)(A:List AN):List AN:=l.foldl (λA s=>bk (dE (-1)) s A) A
noncomputable abbrev tN(P:Params)(y0 lo:Nat):Code:=cF (br (aE (az (aj 10) 4)) 3) (.ref (y0+937)) (bH 129 (BC P) lo)
theorem rW(w:World)(x1 x3 y0 n1 lo q1 q2 q3 ep2:Nat)(es:List DictEntry)(rl:List SV):∀(rem:List SV)(i:Nat)(G:List Nd)(o:Option (Tok×Value))(ep5:Nat),
  rl.drop i=rem→KV (SK w) es (aH G)→(∀p∈rem,p.1∈(ao G).map (·.1))→
  Spec w 2 none (tN w.params y0 lo) ([(y0+937,bQ (n1+937) i),(lo+937,e7 (qB w.params x1 x3 n1 q1 q2 q3++qD w.params o) ep5),(x3+937,ae es ep2),(n1+937,aW (rl.map sv))]++GO G)
   (X:=sX) (λ_ x=>aH x.G=aH G∧ao x.G=ba (rem.map (·.1)) (ao G)) (λ_=>.ok .next)
   (λx=>[(y0+937,dk x.j),(lo+937,e7 (qB w.params x1 x3 n1 q1 q2 q3++qD w.params x.o) x.ep),(x3+937,ae es ep2),(n1+937,aW (rl.map sv))]++GO x.G):=by
 intro rem
 induction rem with
 |nil =>
  intro i G o ep5 hr h hm
  have hx:(rl.map sv)[i]?=none:=by
   rw[List.getElem?_eq_none]
   rw[FQ]
   exact List.drop_eq_nil_iff.mp hr
  refine aA _ _ λA R d os hb m0 g tk b Z F E=>?_
  refine cx (L':=0) (hd':=none) F Z 2 1 (iT (y:=y0) (x:=n1) (i:=i) hx) [0,3] λnn m1 kk1 g1 _=>?_
  intro sS
  exact fx F E 2 6 [0,1,2,3] ⟨G,o,ep5,i⟩ _ (GO G) [] (by rw[FK]) rfl ⟨rfl,rfl⟩
 |cons p rem ih =>
  intro i G o ep5 hr h hm
  obtain⟨hx0,hr'⟩:=aN hr
  have hx:(rl.map sv)[i]?=some (sv p):=by rw[List.getElem?_map,hx0];rfl
  obtain⟨G₁,nu,G₂,rfl,hS⟩:=eY (hm p (.head _))
  have hnd:((aH (G₁++nu::G₂)).map (·.1)).Nodup:=h.2.2
  have hv:valueAt (aH (G₁++nu::G₂)) p.1=some (.ref (nu.a+937)):=hS▸e6 hnd
  have hpu:=dv G₁ nu G₂
  have e1:aH (G₁++{nu with n:=-1,t':=347}::G₂)=aH (G₁++nu::G₂):=by rw[bt,bt];rfl
  have e2:ao (G₁++{nu with n:=-1,t':=347}::G₂)=bk (dE (-1)) p.1 (ao (G₁++nu::G₂)):=by
   rw[←hS,bh]
   exact(nJ (f:=dE (-1)) hnd).symm
  refine aA _ _ λA R d os hb m0 g tk b Z F E=>?_
  rcases o with _|⟨q,z⟩
  ·skip
   refine cx (L':=0) (hd':=none) F Z 2 1 (iS (y:=y0) (x:=n1) (i:=i) hx) [0,3] λ_ m1 kk1 g1 _=>?_
   intro sS
   refine cx (L':=0) (hd':=none) F Z 18 0xc30c2080082 (bl (x:=x3) (ep:=ep2) h (bw p.1 p.2) hv) [2] λ_ m2 kk2 g2 _=>?_
   intro sS
   refine bn [nu.info] _ hpu ?_
   refine da F 37 0x140140000000140000000000005005005000005 ?_
   intro sS
   refine aw [0,1,2,3] [4] [Nd.info {nu with n:=-1,t':=347}] [] (GO (G₁++{nu with n:=-1,t':=347}::G₂)) (dv G₁ {nu with n:=-1,t':=347} G₂).symm ?_
   intro sS
   refine ax F E Z 0 0 _ (GO (G₁++{nu with n:=-1,t':=347}::G₂)) [] (ih (i+1) (G₁++{nu with n:=-1,t':=347}::G₂) (ye kk1 (sv p) none) (E9 ep5 none) hr' (by rw[e1];exact h) (λq hq=>by rw[dV e1];exact hm q (.tail _ hq))) [0,1,2,3] (by rw[FK]) (λ_ x _ hC=>⟨x,⟨hC.1.trans e1,hC.2.trans (by rw[e2];rfl)⟩,rfl,λ_ h=>h,id⟩)
  ·skip
   refine cx (L':=0) (hd':=none) F Z 2 1 (iS (y:=y0) (x:=n1) (i:=i) hx) [0,3] λ_ m1 kk1 g1 _=>?_
   intro sS
   refine cx (L':=0) (hd':=none) F Z 18 0xc30c2080082 (bl (x:=x3) (ep:=ep2) h (bw p.1 p.2) hv) [2] λ_ m2 kk2 g2 _=>?_
   intro sS
   refine bn [nu.info] _ hpu ?_
   refine da F 37 0x140140000000140000000000005005005000005 ?_
   intro sS
   refine aw [0,1,2,3] [4] [Nd.info {nu with n:=-1,t':=347}] [] (GO (G₁++{nu with n:=-1,t':=347}::G₂)) (dv G₁ {nu with n:=-1,t':=347} G₂).symm ?_
   intro sS
   refine ax F E Z 0 0 _ (GO (G₁++{nu with n:=-1,t':=347}::G₂)) [] (ih (i+1) (G₁++{nu with n:=-1,t':=347}::G₂) (ye kk1 (sv p) (some (q,z))) (E9 ep5 (some (q,z))) hr' (by rw[e1];exact h) (λq hq=>by rw[dV e1];exact hm q (.tail _ hq))) [0,1,2,3] (by rw[FK]) (λ_ x _ hC=>⟨x,⟨hC.1.trans e1,hC.2.trans (by rw[e2];rfl)⟩,rfl,λ_ h=>h,id⟩)
structure cZ where
 G:List Nd
 y:Nat
 e4:Nat
 t3:Tok
 out:Int
theorem gz(w:World)(x1 x2 x3 x4 k1 k2 k3 k4 t3 t4 ep ep2 ep4:Nat)(out fin:Int)(es:List DictEntry)(G:List Nd)(rl:List SV)
  (h:KV (SK w) es (aH G)) (hm:∀p∈rl,p.1∈(ao G).map (·.1)) (hl:rl.length≤sizeLine):
  Spec w 3 none (.call (.ref 129) ⟨[.ref (x1+937)],[]⟩) (aQ w.params x1 x2 x3 x4 k1 k2 k3 k4 t3 t4 ep out fin++[(x3+937,ae es ep2),(x4+937,aa (rl.map sv) ep4)]++GO G)
   (X:=cZ) (λ_ x=>aH x.G=aH G∧ao x.G=ba (rl.map (·.1)) (ao G)∧x.out=out+rl.length) (λx=>.ok (.ret (.ref (x.y+937))))
   (λx=>aQ w.params x1 x2 x3 x4 k1 k2 k3 k4 x.t3 t4 ep x.out fin++[(x3+937,ae es ep2),(x4+937,aa [] x.e4)]++[(x.y+937,aW (rl.map sv))]++GO x.G):=by
 have hz:(rl.map sv).length≤sizeLine:=by rw[FQ];exact hl
 refine aA _ _ λA R d os hb m0 g tk b Z F E=>?_
 refine ex F Z 7 1331200 ?_
 intro sS
 refine cx (L':=0) (hd':=none) F Z 49 0x80041000001000001140002001040000040000045 (sO (y:=x4) (ep:=ep4) hz) [3] λy m1 kk1 g1 _=>?_
 intro sS
 refine cf (hd':=none) F Z 56 0x71bf186145142001040000040000045145186186 ([(m1+937,bQ (y+937) 0),(b+937,e7 (qB w.params x1 x3 y tk kk1 (kk1+2)++ qD w.params none) 3),(x3+937,ae es ep2),(y+937,aW (rl.map sv))]) (GO G) ([]) (λ(z:sX)=>[(m1+937,dk z.j),(b+937,e7 (qB w.params x1 x3 y tk kk1 (kk1+2)++ qD w.params z.o) z.ep),(x3+937,ae es ep2),(y+937,aW (rl.map sv))]) (λ(z:sX)=>[]) (λ(z:sX)=>GO z.G) (rW _ x1 x3 m1 y b _ _ _ ep2 es rl rl 0 G none 3 rfl h hm) [6,4,2,5] (by rw[FK]) λ(z:sX)m2 kk2 g2 hC=>?_
 intro sS
 refine cx (L':=0) (hd':=none) F Z 27 0x4104102001040000040000045 (pK (x:=x4) (ep:=ep4) hz) [3] λe4 m3 kk3 g3 _=>?_
 intro sS
 refine cx (L':=0) (hd':=none) F Z 27 0x140002001040000040000045 (mT (x:=y) hz) [5] λt5 m4 kk4 g4 _=>?_
 intro sS
 exact fx F E 33 0x142082001000001001001000001 [0,1,2,3,5] ⟨z.G,y,e4,kk4,out+((rl.map sv).length:Nat)⟩ _ (GO z.G) [] (FL _) rfl ⟨hC.1,hC.2,by rw[FQ]⟩
theorem dG(w:World)(x1 x2 x3 x4 k1 k2 k3 k4 t3 t4 ep ep3:Nat)(out fin:Int)(rs:List Value)(hl:rs.length≤sizeLine):
  Spec w 1 none (.call (.ref 136) ⟨[.ref (x1+937)],[]⟩) [(x1+937,ap 167 (x2+937)),(x2+937,au w.params k1 k2 k3 k4 t3 t4 (x3+937) (.ref (x4+937)) out fin ep),(x4+937,aa rs ep3)]
   (X:=Bool) (λ_ x=>x=(decide (fin<out)||!rs.isEmpty)) (λx=>.ok (.ret (.bool x))) (λ_=>[(x1+937,ap 167 (x2+937)),(x2+937,au w.params k1 k2 k3 k4 t3 t4 (x3+937) (.ref (x4+937)) out fin ep),(x4+937,aa rs ep3)]):=by
 refine ak λA R d os hb m0 g tk b Z F E=>?_
 by_cases hlt:fin<out
 ·have hx:true=(decide (fin<out)||!rs.isEmpty):=by rw[decide_eq_true hlt,Bool.true_or]
  refine ex F Z 7 1064960 ?_
  intro sS
  refine sx F 66 0xfc2001040000040000044080041000001000001102001040000040000044 (by kernel_rfl) (by kernel_rfl) (aL (decide (fin<out))) (aL true) (by kernel_rfl) (by rw[decide_eq_true hlt]) ?_
  exact fs F E 2 0 [0,1,2] (λ_ _ _=>true) (by kernel_rfl) (by kernel_rfl) (by kernel_rfl) (by kernel_rfl) hx
 ·have hx:(!rs.isEmpty)=(decide (fin<out)||!rs.isEmpty):=by rw[decide_eq_false hlt,Bool.false_or]
  rcases rs with _|⟨v0,vs⟩
  ·skip
   refine ex F Z 7 1064960 ?_
   intro sS
   refine sx F 66 0xfc2001040000040000044080041000001000001102001040000040000044 (by kernel_rfl) (by kernel_rfl) (aL (decide (fin<out))) (aL false) (by kernel_rfl) (by rw[decide_eq_false hlt]) ?_
   exact fs F E 48 0xc30c30c2001040000040000044000 [0,1,2] (λ_ _ _=>false) (by kernel_rfl) (by kernel_rfl) (by kernel_rfl) (by kernel_rfl) hx
  ·skip
   refine ex F Z 7 1064960 ?_
   intro sS
   refine sx F 66 0xfc2001040000040000044080041000001000001102001040000040000044 (by kernel_rfl) (by kernel_rfl) (aL (decide (fin<out))) (aL false) (by kernel_rfl) (by rw[decide_eq_false hlt]) ?_
   refine cx (L':=0) (hd':=none) F Z 31 0x30c2001040000040000044000 (ot (x:=x4) (ep:=ep3) hl) [2] λ_ m1 kk1 g1 _=>?_
   intro sS
   exact fs F E 6 0 [0,1,2] (λ_ _ _=>true) (by kernel_rfl) (by kernel_rfl) (by kernel_rfl) (by kernel_rfl) hx
noncomputable abbrev Et:=Option (Tok×Value×Tok×Value)
noncomputable abbrev xU:=Option ((Tok×Value×Tok×Value×Tok×Value)×Et)
noncomputable abbrev dr(P:Params):xU→List DictEntry
 |none=>[]
 |some ((q4,z2,q5,z3,q6,z4),mo)=>[de P yP q4 z2,de P E1 q5 z3,de P (u [115,116,97,116]) q6 z4]++j6 P mo
noncomputable def Ae(k:Tok):xU→Tok|none=>k|some ((q,_),_)=>q
noncomputable def Af(k:Tok):xU→Tok|none=>k|some ((_,_,q,_),_)=>q
noncomputable def Ag(k:Tok):xU→Tok|none=>k|some ((_,_,_,_,q,_),_)=>q
noncomputable def Cq:xU→Et|none=>none|some (_,m)=>m
noncomputable def Fd(e:Nat):xU→Nat|none=>e+1+1+1|some _=>e
structure bz where
 G:List Nd
 rl:List SV
 o:xU
 ep:Nat
 ep4:Nat
 j:Nat
 t4:Tok
 fin:Int
noncomputable abbrev wo(P:Params)(y0 lo:Nat):Code:=cF (br (aE (az (aj 10) 7)) 2) (.ref (y0+937)) (bH 150 (zs P) lo)
noncomputable abbrev dq(P:Params)(x1 x3 n1 q1 q2 q3:Nat):List DictEntry:=[de P U2 q1 (.ref (x1+937)),de P (u [110,111,100,101,115]) q2 (.ref (n1+937)),de P Cf q3 (.ref (x3+937))]
theorem dP(w:World)(x1 x2 x3 x4 y0 n1 lo k1 k2 k3 k4 t3 ep ep2 q1 q2 q3:Nat)(out:Int)(es:List DictEntry)(nodes:List SV):∀(rem:List SV)(i:Nat)(G:List Nd)(rl:List SV)(o:xU)(ep5 ep4 t4:Nat)(fin:Int),
  nodes.drop i=rem→KV (SK w) es (aH G)→(∀p∈rem,p.1∈(ao G).map (·.1)∧aS (ao G) p.1=-1)→(rem.map (·.1)).Nodup→d8 (ao G)→(∀p∈rem,∀s∈aJ (ao G) p.1,s∉rem.map (·.1))→gk (ao G)→rl.length+64*rem.length≤sizeLine→
  Spec w 2 none (wo w.params y0 lo) ([(y0+937,bQ (n1+937) i),(lo+937,e7 (dq w.params x1 x3 n1 q1 q2 q3++dr w.params o) ep5)]++aQ w.params x1 x2 x3 x4 k1 k2 k3 k4 t3 t4 ep out fin++[(x3+937,ae es ep2),(x4+937,aa (rl.map sv) ep4),(n1+937,aW (nodes.map sv))]++GO G)
   (X:=bz) (λ_ x=>aH x.G=aH G∧(ao x.G,x.rl.map (·.1))=(rem.map (·.1)).foldl bd (ao G,rl.map (·.1))∧x.fin=fin+rem.length) (λ_=>.ok .next)
   (λx=>[(y0+937,dk x.j),(lo+937,e7 (dq w.params x1 x3 n1 q1 q2 q3++dr w.params x.o) x.ep)]++aQ w.params x1 x2 x3 x4 k1 k2 k3 k4 t3 x.t4 ep out x.fin++[(x3+937,ae es ep2),(x4+937,aa (x.rl.map sv) x.ep4),(n1+937,aW (nodes.map sv))]++GO x.G):=by
 intro rem
 induction rem with
 |nil =>
  intro i G rl o ep5 ep4 t4 fin hr h hm hno hc hsep hsh hl
  have hx:(nodes.map sv)[i]?=none:=by
   rw[List.getElem?_eq_none]
   rw[FQ]
   exact List.drop_eq_nil_iff.mp hr
  refine aA _ _ λA R d os hb m0 g tk b Z F E=>?_
  refine cx (L':=0) (hd':=none) F Z 2 1 (iT (y:=y0) (x:=n1) (i:=i) hx) [0,6] λnn m1 kk1 g1 _=>?_
  intro sS
  exact fx F E 2 9 [0,1,2,3,4,5,6] ⟨G,rl,o,ep5,ep4,i,t4,fin⟩ _ (GO G) [] (by rw[FK]) rfl ⟨rfl,rfl,(Int.add_zero _).symm⟩
 |cons p rem ih =>
  intro i G rl o ep5 ep4 t4 fin hr h hm hno hc hsep hsh hl
  obtain⟨hx0,hr'⟩:=aN hr
  have hx:(nodes.map sv)[i]?=some (sv p):=by rw[List.getElem?_map,hx0];rfl
  obtain⟨G₁,⟨vS,va,vd,vl,vt,vt',vn,vss,vep⟩,G₂,rfl,hS⟩:=eY (hm p (.head _)).1
  have hnd:((aH (G₁++⟨vS,va,vd,vl,vt,vt',vn,vss,vep⟩::G₂)).map (·.1)).Nodup:=h.2.2
  have hS:vS=p.1:=hS
  have hn:vn=-1:=by
   have:=(hm p (.head _)).2
   rw[←hS]at this
   exact(n0 hnd).symm.trans this
  subst hn
  have hv:valueAt (aH (G₁++⟨vS,va,vd,vl,vt,vt',-1,vss,vep⟩::G₂)) p.1=some (.ref (va+937)):=hS▸e6 hnd
  have hpu:=jM G₁ ⟨vS,va,vd,vl,vt,vt',-1,vss,vep⟩ G₂
  have e1:aH (G₁++(⟨vS,va,vd,vl,vt,350,-2,vss,vep⟩:Nd)::G₂)=aH (G₁++⟨vS,va,vd,vl,vt,vt',-1,vss,vep⟩::G₂):=by rw[bt,bt];rfl
  have hkv2:KV (SK w) es (aH (G₁++(⟨vS,va,vd,vl,vt,350,-2,vss,vep⟩:Nd)::G₂)):=by rw[e1];exact h
  have hml:Nd.lst (⟨vS,va,vd,vl,vt,350,-2,vss,vep⟩:Nd)∈(G₁++(⟨vS,va,vd,vl,vt,350,-2,vss,vep⟩:Nd)::G₂).map Nd.lst:=by
   rw[FM,FR]
   exact FO _ (.head _)
  have hsu:aJ (ao (G₁++⟨vS,va,vd,vl,vt,vt',-1,vss,vep⟩::G₂)) p.1=vss.map (·.1):=hS▸xF hnd
  have hab:ao (G₁++(⟨vS,va,vd,vl,vt,350,-2,vss,vep⟩:Nd)::G₂)=bk (dE (-2)) p.1 (ao (G₁++⟨vS,va,vd,vl,vt,vt',-1,vss,vep⟩::G₂)):=by
   rw[←hS,bh]
   exact(nJ (f:=dE (-2)) hnd).symm
  have hmem:(vS,vss.map (·.1))∈bK (ao (G₁++⟨vS,va,vd,vl,vt,vt',-1,vss,vep⟩::G₂)):=by
   unfold bK ao
   rw[FM,FM]
   exact FO _ (.head _)
  have hcl:∀q∈vss,q.1∈(ao (G₁++(⟨vS,va,vd,vl,vt,350,-2,vss,vep⟩:Nd)::G₂)).map (·.1):=λq hq=>by
   rw[dV e1,←fE]
   exact hc _ hmem q.1 (FP hq)
  have hlv:vss.length≤64:=by have:=hsh _ hmem;rwa[FQ]at this
  have hll:rl.length+vss.length≤sizeLine:=by rw[FT]at hl;lia
  have hpb:=(jM G₁ (⟨vS,va,vd,vl,vt,350,-2,vss,vep⟩:Nd) G₂).symm
  have hstep:∀y:fH,(ao y.G,y.rl.map (·.1))=(vss.map (·.1)).foldl cj (ao (G₁++(⟨vS,va,vd,vl,vt,350,-2,vss,vep⟩:Nd)::G₂),rl.map (·.1))→(ao y.G,y.rl.map (·.1))=bd (ao (G₁++⟨vS,va,vd,vl,vt,vt',-1,vss,vep⟩::G₂),rl.map (·.1)) p.1:=λy hy=>by
   rw[hy,hab]
   unfold bd
   rw[hsu]
  have hsk:∀y:fH,(ao y.G,y.rl.map (·.1))=bd (ao (G₁++⟨vS,va,vd,vl,vt,vt',-1,vss,vep⟩::G₂),rl.map (·.1)) p.1→bK (ao y.G)=bK (ao (G₁++⟨vS,va,vd,vl,vt,vt',-1,vss,vep⟩::G₂)):=λy hy=>by
   have:=congrArg Prod.fst hy
   dsimp only at this
   rw[this]
   exact l8 _ _
  have hno':p.1∉rem.map (·.1)∧(rem.map (·.1)).Nodup:=List.nodup_cons.mp hno
  have hrest:∀y:fH,(ao y.G,y.rl.map (·.1))=bd (ao (G₁++⟨vS,va,vd,vl,vt,vt',-1,vss,vep⟩::G₂),rl.map (·.1)) p.1→(∀q∈rem,q.1∈(ao y.G).map (·.1)∧aS (ao y.G) q.1=-1)∧(∀q∈rem,∀s∈aJ (ao y.G) q.1,s∉rem.map (·.1))∧y.rl.length≤rl.length+64:=λy hy=>by
   have sk:=hsk y hy
   refine⟨λq hq=>⟨?_,?_⟩,λq hq s hs hm'=>?_,?_⟩
   ·rw[cX sk]
    exact(hm q (.tail _ hq)).1
   ·have e:=congrArg Prod.fst hy
    dsimp only at e
    rw[e]
    unfold bd
    rw[hsu,wm,ij (f:=dE (-2)) (λ_=>rfl)]
    ·exact(hm q (.tail _ hq)).2
    ·exactλe=>hno'.1 (by rw[←e];exact FP hq)
    ·exactλhm'=>hsep p (.head _) q.1 (hsu▸hm') (.tail _ (FP hq))
   ·rw[iL sk]at hs
    exact hsep q (.tail _ hq) s hs (.tail _ hm')
   ·have e:=congrArg (λz=>z.2.length) hy
    dsimp only at e
    unfold bd at e
    rw[hsu]at e
    have l1:=wJ (vss.map (·.1)) (bk (dE (-2)) p.1 (ao (G₁++⟨vS,va,vd,vl,vt,vt',-1,vss,vep⟩::G₂)),rl.map (·.1))
    rw[←e]at l1
    simp only[FQ]at l1
    lia
  refine aA _ _ λA R d os hb m0 g tk b Z F E=>?_
  rcases o with _|⟨⟨q4,z2,q5,z3,q6,z4⟩,mo⟩
  ·skip
   refine cx (L':=0) (hd':=none) F Z 2 1 (iS (y:=y0) (x:=n1) (i:=i) hx) [0,6] λ_ m1 kk1 g1 _=>?_
   intro sS
   refine cx (L':=0) (hd':=none) F Z 19 9145144320130 (il (x:=x3) (ep:=ep2) h (bw p.1 p.2)) [4] λ_ m2 kk2 g2 _=>?_
   show Gd _ _
   rw[hv]
   refine bn [Nd.info ⟨vS,va,vd,vl,vt,vt',-1,vss,vep⟩,Nd.lst ⟨vS,va,vd,vl,vt,vt',-1,vss,vep⟩] _ hpu ?_
   refine da F 154 0x289fc924800800000000800000000000000000800000808800800000000800000000000020020020000020203f002082200200000000200000000000000000200000202082 ?_
   intro sS
   refine aw [0,1,2,3,4,5,6,9] [7,8] [Nd.info (⟨vS,va,vd,vl,vt,350,-2,vss,vep⟩:Nd),Nd.lst (⟨vS,va,vd,vl,vt,350,-2,vss,vep⟩:Nd)] [] (GO (G₁++(⟨vS,va,vd,vl,vt,350,-2,vss,vep⟩:Nd)::G₂)) hpb ?_
   intro sS
   refine cf (hd':=none) F Z 0 0 ([(m2+937,ai (vl+937) 0),(lo+937,e7 (lF w.params x1 x3 q1 q2 q3 (Ae kk1 none) (Af kk2 none) (Ag (kk2+2) none) (.ref (n1+937)) (sv p) (.ref (va+937)) (.int (-1) vt')++j6 w.params  (Cq none)) (Fd ep5 none)),(x1+937,ap 167 (x2+937)),(x2+937,au w.params k1 k2 k3 k4 t3 t4 (x3+937) (.ref (x4+937)) out fin ep),(x3+937,ae es ep2),(x4+937,aa (rl.map sv) ep4)]) (GO (G₁++(⟨vS,va,vd,vl,vt,350,-2,vss,vep⟩:Nd)::G₂)) ([]) (λ(y:fH)=>[(m2+937,av y.j),(lo+937,e7 (lF w.params x1 x3 q1 q2 q3 (Ae kk1 none) (Af kk2 none) (Ag (kk2+2) none) (.ref (n1+937)) (sv p) (.ref (va+937)) (.int (-1) vt')++j6 w.params  y.mo) y.ep),(x1+937,ap 167 (x2+937)),(x2+937,au w.params k1 k2 k3 k4 t3 t4 (x3+937) (.ref (x4+937)) out fin ep),(x3+937,ae es ep2),(x4+937,aa (y.rl.map sv) y.ep4)]) (λ(y:fH)=>[]) (λ(y:fH)=>GO y.G) (qv _ x1 x2 x3 x4 m2 lo k1 k2 k3 k4 t3 t4 ep ep2 q1 q2 q3 _ _ _ _ _ _ _ out fin es (⟨vS,va,vd,vl,vt,350,-2,vss,vep⟩:Nd) vss 0 (G₁++(⟨vS,va,vd,vl,vt,350,-2,vss,vep⟩:Nd)::G₂) rl (Cq none) _ ep4 rfl hkv2 hml hcl hll) [7,1,2,3,4,5] (by rw[FK]) λ(y:fH)m3 kk3 g3 hC=>?_
   intro sS
   have hs:=hstep y hC.2
   obtain⟨r1,r2,r3⟩:=hrest y hs
   refine ax F E Z 50 0x1041000c00000c00c00c00000c40030c00000c00000c2 _ (GO y.G) [] (ih (i+1) y.G y.rl (some ((Ae kk1 none,sv p,Af kk2 none,.ref (va+937),Ag (kk2+2) none,.int (-1) vt'),y.mo)) y.ep y.ep4 (kk3+2) (fin+1) hr' (by rw[hC.1];exact hkv2) r1 hno'.2 (i6 (hsk y hs) hc) r2 (kM (hsk y hs) hsh) (by rw[FT]at hl;lia)) [0,1,2,3,4,5,6] (by rw[FK]) (λ_ x _ hX=>⟨x,⟨hX.1.trans (hC.1.trans e1),?_,?_⟩,rfl,λ_ h=>h,id⟩)
   ·rw[hX.2.1,hs]
    rfl
   ·rw[hX.2.2,FT]
    lia
  ·skip
   refine cx (L':=0) (hd':=none) F Z 2 1 (iS (y:=y0) (x:=n1) (i:=i) hx) [0,6] λ_ m1 kk1 g1 _=>?_
   intro sS
   refine cx (L':=0) (hd':=none) F Z 19 9145144320130 (il (x:=x3) (ep:=ep2) h (bw p.1 p.2)) [4] λ_ m2 kk2 g2 _=>?_
   show Gd _ _
   rw[hv]
   refine bn [Nd.info ⟨vS,va,vd,vl,vt,vt',-1,vss,vep⟩,Nd.lst ⟨vS,va,vd,vl,vt,vt',-1,vss,vep⟩] _ hpu ?_
   refine da F 154 0x289fc924800800000000800000000000000000800000808800800000000800000000000020020020000020203f002082200200000000200000000000000000200000202082 ?_
   intro sS
   refine aw [0,1,2,3,4,5,6,9] [7,8] [Nd.info (⟨vS,va,vd,vl,vt,350,-2,vss,vep⟩:Nd),Nd.lst (⟨vS,va,vd,vl,vt,350,-2,vss,vep⟩:Nd)] [] (GO (G₁++(⟨vS,va,vd,vl,vt,350,-2,vss,vep⟩:Nd)::G₂)) hpb ?_
   intro sS
   refine cf (hd':=none) F Z 0 0 ([(m2+937,ai (vl+937) 0),(lo+937,e7 (lF w.params x1 x3 q1 q2 q3 (Ae kk1 (some ((q4,z2,q5,z3,q6,z4),mo))) (Af kk2 (some ((q4,z2,q5,z3,q6,z4),mo))) (Ag (kk2+2) (some ((q4,z2,q5,z3,q6,z4),mo))) (.ref (n1+937)) (sv p) (.ref (va+937)) (.int (-1) vt')++j6 w.params  (Cq (some ((q4,z2,q5,z3,q6,z4),mo)))) (Fd ep5 (some ((q4,z2,q5,z3,q6,z4),mo)))),(x1+937,ap 167 (x2+937)),(x2+937,au w.params k1 k2 k3 k4 t3 t4 (x3+937) (.ref (x4+937)) out fin ep),(x3+937,ae es ep2),(x4+937,aa (rl.map sv) ep4)]) (GO (G₁++(⟨vS,va,vd,vl,vt,350,-2,vss,vep⟩:Nd)::G₂)) ([]) (λ(y:fH)=>[(m2+937,av y.j),(lo+937,e7 (lF w.params x1 x3 q1 q2 q3 (Ae kk1 (some ((q4,z2,q5,z3,q6,z4),mo))) (Af kk2 (some ((q4,z2,q5,z3,q6,z4),mo))) (Ag (kk2+2) (some ((q4,z2,q5,z3,q6,z4),mo))) (.ref (n1+937)) (sv p) (.ref (va+937)) (.int (-1) vt')++j6 w.params  y.mo) y.ep),(x1+937,ap 167 (x2+937)),(x2+937,au w.params k1 k2 k3 k4 t3 t4 (x3+937) (.ref (x4+937)) out fin ep),(x3+937,ae es ep2),(x4+937,aa (y.rl.map sv) y.ep4)]) (λ(y:fH)=>[]) (λ(y:fH)=>GO y.G) (qv _ x1 x2 x3 x4 m2 lo k1 k2 k3 k4 t3 t4 ep ep2 q1 q2 q3 _ _ _ _ _ _ _ out fin es (⟨vS,va,vd,vl,vt,350,-2,vss,vep⟩:Nd) vss 0 (G₁++(⟨vS,va,vd,vl,vt,350,-2,vss,vep⟩:Nd)::G₂) rl (Cq (some ((q4,z2,q5,z3,q6,z4),mo))) _ ep4 rfl hkv2 hml hcl hll) [7,1,2,3,4,5] (by rw[FK]) λ(y:fH)m3 kk3 g3 hC=>?_
   intro sS
   have hs:=hstep y hC.2
   obtain⟨r1,r2,r3⟩:=hrest y hs
   refine ax F E Z 50 0x1041000c00000c00c00c00000c40030c00000c00000c2 _ (GO y.G) [] (ih (i+1) y.G y.rl (some ((Ae kk1 (some ((q4,z2,q5,z3,q6,z4),mo)),sv p,Af kk2 (some ((q4,z2,q5,z3,q6,z4),mo)),.ref (va+937),Ag (kk2+2) (some ((q4,z2,q5,z3,q6,z4),mo)),.int (-1) vt'),y.mo)) y.ep y.ep4 (kk3+2) (fin+1) hr' (by rw[hC.1];exact hkv2) r1 hno'.2 (i6 (hsk y hs) hc) r2 (kM (hsk y hs) hsh) (by rw[FT]at hl;lia)) [0,1,2,3,4,5,6] (by rw[FK]) (λ_ x _ hX=>⟨x,⟨hX.1.trans (hC.1.trans e1),?_,?_⟩,rfl,λ_ h=>h,id⟩)
   ·rw[hX.2.1,hs]
    rfl
   ·rw[hX.2.2,FT]
    lia
structure mn where
 G:List Nd
 rl:List SV
 ep4:Nat
 t4:Tok
 fin:Int
theorem tD(w:World)(x1 x2 x3 x4 k1 k2 k3 k4 t3 t4 ep ep2 ep4:Nat)(out fin:Int)(es:List DictEntry)(nodes:List SV)(G:List Nd)(rl:List SV)
  (h6:nodes.length≤6) (h:KV (SK w) es (aH G)) (hm:∀p∈nodes,p.1∈(ao G).map (·.1)∧aS (ao G) p.1=-1) (hno:(nodes.map (·.1)).Nodup) (hc:d8 (ao G)) (hsep:∀p∈nodes,∀s∈aJ (ao G) p.1,s∉nodes.map (·.1)) (hsh:gk (ao G)) (hl:rl.length+64*nodes.length≤sizeLine):
  Spec w 3 none (.call (.ref 150) ⟨.ref (x1+937)::nodes.map sv,[]⟩) (aQ w.params x1 x2 x3 x4 k1 k2 k3 k4 t3 t4 ep out fin++[(x3+937,ae es ep2),(x4+937,aa (rl.map sv) ep4)]++GO G)
   (X:=mn) (λ_ x=>aH x.G=aH G∧(ao x.G,x.rl.map (·.1))=(nodes.map (·.1)).foldl bd (ao G,rl.map (·.1))∧x.fin=fin+nodes.length) (λ_=>.ok (.ret .none))
   (λx=>aQ w.params x1 x2 x3 x4 k1 k2 k3 k4 t3 x.t4 ep out x.fin++[(x3+937,ae es ep2),(x4+937,aa (x.rl.map sv) x.ep4)]++GO x.G):=by
 refine aA _ _ λA R d os hb m0 g tk b Z F E=>?_
 rcases nodes with _|⟨p1,_|⟨p2,_|⟨p3,_|⟨p4,_|⟨p5,_|⟨p6,_|⟨p7,r⟩⟩⟩⟩⟩⟩⟩
 ·skip
  refine ex F Z 12 6544711680 ?_
  intro sS
  refine cf (hd':=none) F Z 63 0x1c5fc5146186080041000001000001182001040000040000046 ([(b+939,bQ (b+937) 0),(b+938,e7 (dq w.params x1 x3 b tk (tk+1) (tk+4)++dr w.params none) 3),(x1+937,ap 167 (x2+937)),(x2+937,au w.params k1 k2 k3 k4 t3 t4 (x3+937) (.ref (x4+937)) out fin ep),(x3+937,ae es ep2),(x4+937,aa (rl.map sv) ep4),(b+937,aW ([].map sv))]) (GO G) ([]) (λ(y:bz)=>[(b+939,dk y.j),(b+938,e7 (dq w.params x1 x3 b tk (tk+1) (tk+4)++dr w.params y.o) y.ep),(x1+937,ap 167 (x2+937)),(x2+937,au w.params k1 k2 k3 k4 t3 y.t4 (x3+937) (.ref (x4+937)) out y.fin ep),(x3+937,ae es ep2),(x4+937,aa (y.rl.map sv) y.ep4),(b+937,aW ([].map sv))]) (λ(y:bz)=>[]) (λ(y:bz)=>GO y.G) (dP _ x1 x2 x3 x4 (b+2) b (b+1) k1 k2 k3 k4 t3 ep ep2 _ _ _ out es [] [] 0 G rl none _ ep4 t4 fin rfl h hm hno hc hsep hsh hl) [6,5,0,1,2,3,4] (by rw[FK]) λ(y:bz)m1 kk1 g1 hC=>?_
  intro sS
  exact fx F E 0 0 [0,1,2,3] ⟨y.G,y.rl,y.ep4,y.t4,y.fin⟩ _ (GO y.G) [] (FL _) rfl hC
 ·skip
  refine ex F Z 12 6544711680 ?_
  intro sS
  refine cf (hd':=none) F Z 63 0x1c5fc5146186080041000001000001182001040000040000046 ([(b+939,bQ (b+937) 0),(b+938,e7 (dq w.params x1 x3 b tk (tk+1) (tk+4)++dr w.params none) 3),(x1+937,ap 167 (x2+937)),(x2+937,au w.params k1 k2 k3 k4 t3 t4 (x3+937) (.ref (x4+937)) out fin ep),(x3+937,ae es ep2),(x4+937,aa (rl.map sv) ep4),(b+937,aW ([p1].map sv))]) (GO G) ([]) (λ(y:bz)=>[(b+939,dk y.j),(b+938,e7 (dq w.params x1 x3 b tk (tk+1) (tk+4)++dr w.params y.o) y.ep),(x1+937,ap 167 (x2+937)),(x2+937,au w.params k1 k2 k3 k4 t3 y.t4 (x3+937) (.ref (x4+937)) out y.fin ep),(x3+937,ae es ep2),(x4+937,aa (y.rl.map sv) y.ep4),(b+937,aW ([p1].map sv))]) (λ(y:bz)=>[]) (λ(y:bz)=>GO y.G) (dP _ x1 x2 x3 x4 (b+2) b (b+1) k1 k2 k3 k4 t3 ep ep2 _ _ _ out es [p1] [p1] 0 G rl none _ ep4 t4 fin rfl h hm hno hc hsep hsh hl) [6,5,0,1,2,3,4] (by rw[FK]) λ(y:bz)m1 kk1 g1 hC=>?_
  intro sS
  exact fx F E 0 0 [0,1,2,3] ⟨y.G,y.rl,y.ep4,y.t4,y.fin⟩ _ (GO y.G) [] (FL _) rfl hC
 ·skip
  refine ex F Z 12 6544711680 ?_
  intro sS
  refine cf (hd':=none) F Z 63 0x1c5fc5146186080041000001000001182001040000040000046 ([(b+939,bQ (b+937) 0),(b+938,e7 (dq w.params x1 x3 b tk (tk+1) (tk+4)++dr w.params none) 3),(x1+937,ap 167 (x2+937)),(x2+937,au w.params k1 k2 k3 k4 t3 t4 (x3+937) (.ref (x4+937)) out fin ep),(x3+937,ae es ep2),(x4+937,aa (rl.map sv) ep4),(b+937,aW ([p1,p2].map sv))]) (GO G) ([]) (λ(y:bz)=>[(b+939,dk y.j),(b+938,e7 (dq w.params x1 x3 b tk (tk+1) (tk+4)++dr w.params y.o) y.ep),(x1+937,ap 167 (x2+937)),(x2+937,au w.params k1 k2 k3 k4 t3 y.t4 (x3+937) (.ref (x4+937)) out y.fin ep),(x3+937,ae es ep2),(x4+937,aa (y.rl.map sv) y.ep4),(b+937,aW ([p1,p2].map sv))]) (λ(y:bz)=>[]) (λ(y:bz)=>GO y.G) (dP _ x1 x2 x3 x4 (b+2) b (b+1) k1 k2 k3 k4 t3 ep ep2 _ _ _ out es [p1,p2] [p1,p2] 0 G rl none _ ep4 t4 fin rfl h hm hno hc hsep hsh hl) [6,5,0,1,2,3,4] (by rw[FK]) λ(y:bz)m1 kk1 g1 hC=>?_
  intro sS
  exact fx F E 0 0 [0,1,2,3] ⟨y.G,y.rl,y.ep4,y.t4,y.fin⟩ _ (GO y.G) [] (FL _) rfl hC
 ·skip
  refine ex F Z 12 6544711680 ?_
  intro sS
  refine cf (hd':=none) F Z 63 0x1c5fc5146186080041000001000001182001040000040000046 ([(b+939,bQ (b+937) 0),(b+938,e7 (dq w.params x1 x3 b tk (tk+1) (tk+4)++dr w.params none) 3),(x1+937,ap 167 (x2+937)),(x2+937,au w.params k1 k2 k3 k4 t3 t4 (x3+937) (.ref (x4+937)) out fin ep),(x3+937,ae es ep2),(x4+937,aa (rl.map sv) ep4),(b+937,aW ([p1,p2,p3].map sv))]) (GO G) ([]) (λ(y:bz)=>[(b+939,dk y.j),(b+938,e7 (dq w.params x1 x3 b tk (tk+1) (tk+4)++dr w.params y.o) y.ep),(x1+937,ap 167 (x2+937)),(x2+937,au w.params k1 k2 k3 k4 t3 y.t4 (x3+937) (.ref (x4+937)) out y.fin ep),(x3+937,ae es ep2),(x4+937,aa (y.rl.map sv) y.ep4),(b+937,aW ([p1,p2,p3].map sv))]) (λ(y:bz)=>[]) (λ(y:bz)=>GO y.G) (dP _ x1 x2 x3 x4 (b+2) b (b+1) k1 k2 k3 k4 t3 ep ep2 _ _ _ out es [p1,p2,p3] [p1,p2,p3] 0 G rl none _ ep4 t4 fin rfl h hm hno hc hsep hsh hl) [6,5,0,1,2,3,4] (by rw[FK]) λ(y:bz)m1 kk1 g1 hC=>?_
  intro sS
  exact fx F E 0 0 [0,1,2,3] ⟨y.G,y.rl,y.ep4,y.t4,y.fin⟩ _ (GO y.G) [] (FL _) rfl hC
 ·skip
  refine ex F Z 12 6544711680 ?_
  intro sS
  refine cf (hd':=none) F Z 63 0x1c5fc5146186080041000001000001182001040000040000046 ([(b+939,bQ (b+937) 0),(b+938,e7 (dq w.params x1 x3 b tk (tk+1) (tk+4)++dr w.params none) 3),(x1+937,ap 167 (x2+937)),(x2+937,au w.params k1 k2 k3 k4 t3 t4 (x3+937) (.ref (x4+937)) out fin ep),(x3+937,ae es ep2),(x4+937,aa (rl.map sv) ep4),(b+937,aW ([p1,p2,p3,p4].map sv))]) (GO G) ([]) (λ(y:bz)=>[(b+939,dk y.j),(b+938,e7 (dq w.params x1 x3 b tk (tk+1) (tk+4)++dr w.params y.o) y.ep),(x1+937,ap 167 (x2+937)),(x2+937,au w.params k1 k2 k3 k4 t3 y.t4 (x3+937) (.ref (x4+937)) out y.fin ep),(x3+937,ae es ep2),(x4+937,aa (y.rl.map sv) y.ep4),(b+937,aW ([p1,p2,p3,p4].map sv))]) (λ(y:bz)=>[]) (λ(y:bz)=>GO y.G) (dP _ x1 x2 x3 x4 (b+2) b (b+1) k1 k2 k3 k4 t3 ep ep2 _ _ _ out es [p1,p2,p3,p4] [p1,p2,p3,p4] 0 G rl none _ ep4 t4 fin rfl h hm hno hc hsep hsh hl) [6,5,0,1,2,3,4] (by rw[FK]) λ(y:bz)m1 kk1 g1 hC=>?_
  intro sS
  exact fx F E 0 0 [0,1,2,3] ⟨y.G,y.rl,y.ep4,y.t4,y.fin⟩ _ (GO y.G) [] (FL _) rfl hC
 ·skip
  refine ex F Z 12 6544711680 ?_
  intro sS
  refine cf (hd':=none) F Z 63 0x1c5fc5146186080041000001000001182001040000040000046 ([(b+939,bQ (b+937) 0),(b+938,e7 (dq w.params x1 x3 b tk (tk+1) (tk+4)++dr w.params none) 3),(x1+937,ap 167 (x2+937)),(x2+937,au w.params k1 k2 k3 k4 t3 t4 (x3+937) (.ref (x4+937)) out fin ep),(x3+937,ae es ep2),(x4+937,aa (rl.map sv) ep4),(b+937,aW ([p1,p2,p3,p4,p5].map sv))]) (GO G) ([]) (λ(y:bz)=>[(b+939,dk y.j),(b+938,e7 (dq w.params x1 x3 b tk (tk+1) (tk+4)++dr w.params y.o) y.ep),(x1+937,ap 167 (x2+937)),(x2+937,au w.params k1 k2 k3 k4 t3 y.t4 (x3+937) (.ref (x4+937)) out y.fin ep),(x3+937,ae es ep2),(x4+937,aa (y.rl.map sv) y.ep4),(b+937,aW ([p1,p2,p3,p4,p5].map sv))]) (λ(y:bz)=>[]) (λ(y:bz)=>GO y.G) (dP _ x1 x2 x3 x4 (b+2) b (b+1) k1 k2 k3 k4 t3 ep ep2 _ _ _ out es [p1,p2,p3,p4,p5] [p1,p2,p3,p4,p5] 0 G rl none _ ep4 t4 fin rfl h hm hno hc hsep hsh hl) [6,5,0,1,2,3,4] (by rw[FK]) λ(y:bz)m1 kk1 g1 hC=>?_
  intro sS
  exact fx F E 0 0 [0,1,2,3] ⟨y.G,y.rl,y.ep4,y.t4,y.fin⟩ _ (GO y.G) [] (FL _) rfl hC
 ·skip
  refine ex F Z 12 6544711680 ?_
  intro sS
  refine cf (hd':=none) F Z 63 0x1c5fc5146186080041000001000001182001040000040000046 ([(b+939,bQ (b+937) 0),(b+938,e7 (dq w.params x1 x3 b tk (tk+1) (tk+4)++dr w.params none) 3),(x1+937,ap 167 (x2+937)),(x2+937,au w.params k1 k2 k3 k4 t3 t4 (x3+937) (.ref (x4+937)) out fin ep),(x3+937,ae es ep2),(x4+937,aa (rl.map sv) ep4),(b+937,aW ([p1,p2,p3,p4,p5,p6].map sv))]) (GO G) ([]) (λ(y:bz)=>[(b+939,dk y.j),(b+938,e7 (dq w.params x1 x3 b tk (tk+1) (tk+4)++dr w.params y.o) y.ep),(x1+937,ap 167 (x2+937)),(x2+937,au w.params k1 k2 k3 k4 t3 y.t4 (x3+937) (.ref (x4+937)) out y.fin ep),(x3+937,ae es ep2),(x4+937,aa (y.rl.map sv) y.ep4),(b+937,aW ([p1,p2,p3,p4,p5,p6].map sv))]) (λ(y:bz)=>[]) (λ(y:bz)=>GO y.G) (dP _ x1 x2 x3 x4 (b+2) b (b+1) k1 k2 k3 k4 t3 ep ep2 _ _ _ out es [p1,p2,p3,p4,p5,p6] [p1,p2,p3,p4,p5,p6] 0 G rl none _ ep4 t4 fin rfl h hm hno hc hsep hsh hl) [6,5,0,1,2,3,4] (by rw[FK]) λ(y:bz)m1 kk1 g1 hC=>?_
  intro sS
  exact fx F E 0 0 [0,1,2,3] ⟨y.G,y.rl,y.ep4,y.t4,y.fin⟩ _ (GO y.G) [] (FL _) rfl hC
 ·exact absurd h6 (by simp only[FT];lia)
noncomputable abbrev oD(f x:Addr):Obj:=⟨.type "method",none,.fields ⟨[.ref f,.ref x]⟩,⟨[]⟩⟩
theorem oE{w:World}{L mm x1:Nat}{vs:List Value}{pre:ah}{X:Type}{C:Nat→X→Prop}{r:X→Result}{post:X→ah}
  (S:Spec w L none (.call (.ref 150) ⟨.ref (x1+937)::vs,[]⟩) pre C r post) (hC:∀n m x,n≤m→C m x→C n x):
  Spec w L none (.call (.ref (mm+937)) ⟨vs,[]⟩) ([(mm+937,oD 150 (x1+937))]++pre) C r (λx=>[(mm+937,oD 150 (x1+937))]++post x):=by
 refine aA _ _ λA R d os hb m0 g tk b Z F E=>?_
 refine ax F E Z 1 1 [(mm+937,oD 150 (x1+937))] pre [] ((S.frame [(mm+937,oD 150 (x1+937))]).convP (Nat.le_refl _) List.perm_append_comm λn x hC=>⟨x,hC,rfl,List.perm_append_comm⟩) [0] (by rw[FK]) (λn x hn hx=>⟨x,hC _ _ x hn hx,rfl,λ_ h=>h,id⟩)
noncomputable abbrev RL:=Nat×List SV×Nat
noncomputable def RO(acc:List RL):ah:=acc.map λt=>(t.1+937,aa (t.2.1.map sv) t.2.2)
noncomputable def aM(acc:List RL):List Value:=acc.map λt=>.ref (t.1+937)
theorem kK(acc:List RL)(t:RL):aM (acc++[t])=aM acc++[.ref (t.1+937)]:=FM
structure gP(A:List AN)(R:List Str):Prop where
 len:R.length≤6
 mem:∀s∈R,s∈A.map (·.1)
 nd:R.Nodup
 cl:d8 (ba R A)
 sh:gk (ba R A)
 mem1:∀s∈R,s∈(ba R A).map (·.1)∧aS (ba R A) s=-1
 sep:∀s∈R,∀t∈aJ (ba R A) s,t∉R
noncomputable def eF(A:List AN)(R:List Str):List AN×List Str:=R.foldl bd (ba R A,[])
noncomputable def gL:Nat→List AN→List Str→Prop
 |0,_,R=>R=[]
 |n+1,A,R=>R=[]∨(gP A R∧gL n (eF A R).1 (eF A R).2)
noncomputable def bB:Nat→List AN→List Str→List (List Str)
 |0,_,_=>[]
 |n+1,A,R=>if R=[]then[]else R::bB n (eF A R).1 (eF A R).2
noncomputable def eH(got R:List Str):Prop:=got.Perm R∧sortedS got=true
inductive bV{α β:Type}(R:α→β→Prop):List α→List β→Prop
 |nil:bV R [] []
 |cons {a:α} {b:β} {l:List α} {l':List β}:R a b→bV R l l'→bV R (a::l) (b::l')
structure z9 where
 acc:List RL
 G:List Nd
 o:k5
 ee:Nat
 t3:Nat
 t4:Nat
 e4:Nat
 ey:Nat
 out:Int
 fin:Int
noncomputable abbrev zB(P:Params):k5→List DictEntry
 |none=>[]
 |some (q,z)=>[de P (u [114,101,97,100,121]) q z]
noncomputable abbrev sA(P:Params)(lo q1 q2 x1 y:Nat)(o:k5)(ee:Nat)(sl:Array (Option Value)):Addr×Obj:=(lo+937,df ([de P U6 q1 (.ref (x1+937)),de P (u [114,111,117,110,100,115]) q2 (.ref (y+937))]++zB P o) ee sl)
noncomputable abbrev uS(P:Params)(lo:Nat):Code:=b6 (br (aE (aj 42)) 2) (bH 926 (xb P) lo)
noncomputable abbrev sB:Stmt:=br (aE (aj 42)) 2
noncomputable abbrev zA:Stmt:=br (bN sB) 1
noncomputable abbrev oQ(P:Params)(lo:Nat):Env:=bH 926 (xb P) lo
noncomputable abbrev BN(env:Env)(a b:Addr)(x:Sem Value):Sem Fin:=ty (b6 sB env) env (j4 ((bN sB).drop 2) env (E5 (tT zA) (tU zA) env (Cl (nj (jc zA) 2) default env (nY (.ref a) (.ref b) x))))
theorem xN(env:Env)(a b:Addr):mu (BN env a b):=⟨λk=>by kernel_rfl,λm=>by kernel_rfl⟩
noncomputable abbrev zO:List Value→Sem Value→Sem Value:=PySem.W.Fast.tw8004119333741010377
noncomputable abbrev rA(f:Value)(l:List Value)(k:List (Str×Value)):Sem Value:=PySem.W.Fast.tw11478286150595567475 f l k
theorem ym{f:Addr}{l:List SV}(m:Sem Value):zO (.ref f::PySem.W.R.appendR (l.map sv).reverse []) m=zO [.ref f] m:=by
 have a:PySem.W.R.appendR (l.map sv).reverse []=(l.map sv).reverse:=by rw[←PySem.W.R.appendR_eq];exact FK _
 rw[a]
 unfold zO
 rw[←PySem.W.Fast.te8004119333741010377]
 unfold operate release holding
 have e:∀p:Value→Bool,p (.ref f)=true→(∀S t,p (.str S t)=false)→(Value.ref f::(l.map sv).reverse).filter p=[.ref f].filter p:=λp h1 h2=>by
  rw[List.filter_cons_of_pos h1,List.filter_cons_of_pos h1,List.filter_reverse,List.filter_eq_nil_iff.mpr,List.reverse_nil]
  ·rfl
  ·intro x hx
   obtain⟨q,_,rfl⟩:=FX.mp hx
   rw[show sv q=.str q.1 q.2 from rfl,h2]
   exact Bool.false_ne_true
 rw[e _ rfl λ_ _=>rfl,e _ rfl λ_ _=>rfl]
noncomputable abbrev BO:Stmt:=br (bN sB) 2
noncomputable def A7:Stmt→Expr
 |.Expr v _=>v
 |_=>.Name ⟨#[]⟩ default
noncomputable def A6:Stmt→Pos
 |.Expr _ p=>p
 |_=>default
noncomputable abbrev qu(env:Env)(x:Sem Value):Sem Fin:=ty (b6 sB env) env (j4 ((bN sB).drop 3) env (PySem.W.R.bindR (PySem.W.R.bindR x λr=>PySem.W.R.bindR (PySem.W.Fast.tw17359229931016689406 [r] point) λ_=>.pure r) λv=>PySem.W.Fast.tw12372662630863984472 (A7 BO) (A6 BO) v))
theorem hz{rl:List SV}(h6:rl.length≤6):(rl.map sv).length≤sizeLine:=by rw[FQ,sizeLine_eq];lia
theorem Fa{rl:List SV}(h6:rl.length≤6):rl.length≤sizeLine:=by rw[sizeLine_eq];lia
theorem k6{rl:List SV}(h6:rl.length≤6):rl.length<64:=by lia
theorem yt{rl:List SV}(h6:rl.length≤6):([]:List SV).length+64*rl.length≤sizeLine:=by rw[sizeLine_eq,List.length_nil];lia
theorem yq{out fin o1 o2:Int}{p:SV}{rl:List SV}(h:out=fin)(h1:o1=out+((p::rl).length:Nat))(h2:o2=o1+(([]:List SV).length:Nat)):fin<o2:=by
 rw[h2,h1,h,FT,List.length_nil];lia
theorem uT{out fin o1 o2 f3:Int}{rl:List SV}(h:out=fin)(h1:o1=out+(rl.length:Nat))(h2:o2=o1+(([]:List SV).length:Nat))(h3:f3=fin+(rl.length:Nat)):o2=f3:=by
 rw[h2,h1,h,h3,List.length_nil];lia
theorem yp{A B:List AN}{nodes:List SV}(so:gP A (nodes.map (·.1)))(e:B=ba (nodes.map (·.1)) A):∀p∈nodes,p.1∈B.map (·.1)∧aS B p.1=-1:=λp hp=>e▸so.mem1 p.1 (FP hp)
theorem yo{A B:List AN}{nodes:List SV}(so:gP A (nodes.map (·.1)))(e:B=ba (nodes.map (·.1)) A):d8 B:=e▸so.cl
theorem yr{A B:List AN}{nodes:List SV}(so:gP A (nodes.map (·.1)))(e:B=ba (nodes.map (·.1)) A):gk B:=e▸so.sh
theorem uV{A B:List AN}{nodes:List SV}(so:gP A (nodes.map (·.1)))(e:B=ba (nodes.map (·.1)) A):∀p∈nodes,∀s∈aJ B p.1,s∉nodes.map (·.1):=λp hp=>e▸so.sep p.1 (FP hp)
theorem qY{A B B3:List AN}{R3:List Str}{nodes:List SV}{n:Nat}(e:B=ba (nodes.map (·.1)) A)(e3:(B3,R3)=(nodes.map (·.1)).foldl bd (B,([]:List SV).map (·.1)))(hg:gL n (eF A (nodes.map (·.1))).1 (eF A (nodes.map (·.1))).2):gL n B3 R3:=by
 have:(B3,R3)=eF A (nodes.map (·.1)):=by rw[e3,e];rfl
 rw[←this]at hg
 exact hg
theorem qZ(X:ah)(acc:List RL)(t:RL):List.Perm (([(t.1+937,aa (t.2.1.map sv) t.2.2)]:ah)++(X++RO acc)) (([]:ah)++(X++RO (acc++[t]))):=by
 have e:RO (acc++[t])=(RO acc++[(t.1+937,aa (t.2.1.map sv) t.2.2)]:ah):=FM
 rw[e,List.nil_append,←FV X]
 exact List.perm_append_comm
theorem q9{A B B3:List AN}{R3:List Str}{p:SV}{nodes:List SV}{n:Nat}{acc acc':List RL}{t:RL}(hys:eH (t.2.1.map (·.1)) ((p::nodes).map (·.1)))(e:B=ba ((p::nodes).map (·.1)) A)(e3:(B3,R3)=((p::nodes).map (·.1)).foldl bd (B,([]:List SV).map (·.1)))
  (h:∃L,acc'=(acc++[t])++L∧bV (λt R=>eH (t.2.1.map (·.1)) R) L (bB n B3 R3)):∃L,acc'=acc++L∧bV (λ(t:RL)R=>eH (t.2.1.map (·.1)) R) L (bB (n+1) A ((p::nodes).map (·.1))):=by
 obtain⟨L,e1,e2⟩:=h
 refine⟨t::L,by rw[e1,FV];rfl,?_⟩
 have e4:(B3,R3)=eF A ((p::nodes).map (·.1)):=by rw[e3,e];rfl
 have e5:bB (n+1) A ((p::nodes).map (·.1))=((p::nodes).map (·.1))::bB n B3 R3:=by
  show(if(p::nodes).map (·.1)=[]then[]else _)=_
  rw[if_neg (by simp),←e4]
 rw[e5]
 exact .cons hys e2
theorem xi{w:World}{x1 x2 x3 x4 k1 k2 k3 k4 ep ep2 lo q1 q2 y:Nat}{es:List DictEntry}{sl:Array (Option Value)}:∀(n:Nat)(acc:List RL)(o:k5)(ee t3 t4 ep4 ey:Nat)(out fin:Int)(G:List Nd)(rl:List SV),
  KV (SK w) es (aH G)→gL n (ao G) (rl.map (·.1))→out=fin→acc.length+n≤100→
  Spec w 5 none (uS w.params lo) ([sA w.params lo q1 q2 x1 y o ee sl,(y+937,aa (aM acc) ey),(x1+937,ap 167 (x2+937)),(x2+937,au w.params k1 k2 k3 k4 t3 t4 (x3+937) (.ref (x4+937)) out fin ep),(x3+937,ae es ep2),(x4+937,aa (rl.map sv) ep4)]++(GO G++RO acc))
   (X:=z9) (λ_ x=>∃L,x.acc=acc++L∧bV (λ(t:RL)R=>eH (t.2.1.map (·.1)) R) L (bB n (ao G) (rl.map (·.1)))) (λ_=>.ok .next)
   (λx=>[sA w.params lo q1 q2 x1 y x.o x.ee sl,(y+937,aa (aM x.acc) x.ey),(x1+937,ap 167 (x2+937)),(x2+937,au w.params k1 k2 k3 k4 x.t3 x.t4 (x3+937) (.ref (x4+937)) x.out x.fin ep),(x3+937,ae es ep2),(x4+937,aa [] x.e4)]++(GO x.G++RO x.acc)):=by
 have hend:∀(n:Nat)(acc:List RL)(o:k5)(ee t3 t4 ep4 ey:Nat)(out fin:Int)(G:List Nd),out=fin→
  Spec w 5 none (uS w.params lo) ([sA w.params lo q1 q2 x1 y o ee sl,(y+937,aa (aM acc) ey),(x1+937,ap 167 (x2+937)),(x2+937,au w.params k1 k2 k3 k4 t3 t4 (x3+937) (.ref (x4+937)) out fin ep),(x3+937,ae es ep2),(x4+937,aa ([].map sv) ep4)]++(GO G++RO acc))
   (X:=z9) (λ_ x=>∃L,x.acc=acc++L∧bV (λ(t:RL)R=>eH (t.2.1.map (·.1)) R) L (bB n (ao G) [])) (λ_=>.ok .next)
   (λx=>[sA w.params lo q1 q2 x1 y x.o x.ee sl,(y+937,aa (aM x.acc) x.ey),(x1+937,ap 167 (x2+937)),(x2+937,au w.params k1 k2 k3 k4 x.t3 x.t4 (x3+937) (.ref (x4+937)) x.out x.fin ep),(x3+937,ae es ep2),(x4+937,aa [] x.e4)]++(GO x.G++RO x.acc)):=by
  intro n acc o ee t3 t4 ep4 ey out fin G hof
  have hn:bB n (ao G) []=[]:=by cases n<;>rfl
  have hC:∃L,acc=acc++L∧bV (λ(t:RL)R=>eH (t.2.1.map (·.1)) R) L (bB n (ao G) []):=⟨[],(FK _).symm,hn▸.nil⟩
  refine aA _ _ λA R d os hb m0 g tk b Z F E=>?_
  rcases o with _|⟨q3,z3⟩
  ·skip
   refine cx (L':=1) (hd':=none) F Z 21 0x1030000000c00000c00000c1 (dG _ x1 x2 x3 x4 k1 k2 k3 k4 t3 t4 ep ep4 out fin [] (Nat.zero_le _)) [2,3,5] λ(a1:Bool)m1 kk1 g1 ha1=>?_
   show Gd _ _
   obtain rfl:a1=false:=by rw[ha1,decide_eq_false (by lia)];rfl
   exact fx F E 2 0 [0,1,2,3,4,5] ⟨acc,G,none,ee,t3,t4,ep4,ey,out,fin⟩ _ (GO G++RO acc) [] (by rw[FK]) rfl hC
  ·skip
   refine cx (L':=1) (hd':=none) F Z 21 0x1030000000c00000c00000c1 (dG _ x1 x2 x3 x4 k1 k2 k3 k4 t3 t4 ep ep4 out fin [] (Nat.zero_le _)) [2,3,5] λ(a1:Bool)m1 kk1 g1 ha1=>?_
   show Gd _ _
   obtain rfl:a1=false:=by rw[ha1,decide_eq_false (by lia)];rfl
   exact fx F E 2 0 [0,1,2,3,4,5] ⟨acc,G,some (q3,z3),ee,t3,t4,ep4,ey,out,fin⟩ _ (GO G++RO acc) [] (by rw[FK]) rfl hC
 intro n
 induction n with
 |zero =>
  intro acc o ee t3 t4 ep4 ey out fin G rl h hg hof hl
  have e:rl=[]:=List.map_eq_nil_iff.mp hg
  subst e
  exact hend 0 acc o ee t3 t4 ep4 ey out fin G hof
 |succ n ih =>
  intro acc o ee t3 t4 ep4 ey out fin G rl h hg hof hl
  by_cases hne0:rl=[]
  ·subst hne0
   exact hend (n+1) acc o ee t3 t4 ep4 ey out fin G hof
  obtain⟨so,hg⟩:gP (ao G) (rl.map (·.1))∧gL n (eF (ao G) (rl.map (·.1))).1 (eF (ao G) (rl.map (·.1))).2:=by
   rcases hg with hg|hg
   ·exact absurd (List.map_eq_nil_iff.mp hg) hne0
   ·exact hg
  have h6:rl.length≤6:=by have:=so.len;rwa[FQ]at this
  have hm:∀p∈rl,p.1∈(ao G).map (·.1):=λp hp=>so.mem p.1 (FP hp)
  have hrs:(aM acc).length≤sizeLine:=by unfold aM;rw[FQ,sizeLine_eq];lia
  refine aA _ _ λA R d os hb m0 g tk b Z F E=>?_
  have TH:=λa b=>xN (oQ w.params lo) a b
  rcases o with _|⟨q3,z0⟩
  ·rcases rl with _|⟨p1,rl⟩
   ·exact absurd rfl hne0
   ·skip
    refine cx (L':=1) (hd':=none) F Z 21 0x1030000000c00000c00000c1 (dG _ x1 x2 x3 x4 k1 k2 k3 k4 t3 t4 ep ep4 out fin ((p1::rl).map sv) (hz h6)) [2,3,5] λ(a1:Bool)m1 kk1 g1 ha1=>?_
    show Gd _ _
    obtain rfl:a1=true:=by rw[ha1,Bool.or_comm];rfl
    refine cf (L':=3) (hd':=none) F Z 24 0x1030000000c00000c00000c1 (aQ w.params x1 x2 x3 x4 k1 k2 k3 k4 t3 t4 ep out fin++[(x3+937,ae es ep2),(x4+937,aa ((p1::rl).map sv) ep4)]) (GO G) (RO acc) (λ(z1:cZ)=>aQ w.params x1 x2 x3 x4 k1 k2 k3 k4 z1.t3 t4 ep z1.out fin++[(x3+937,ae es ep2),(x4+937,aa [] z1.e4)]) (λ(z1:cZ)=>[(z1.y+937,aW ((p1::rl).map sv))]) (λ(z1:cZ)=>GO z1.G) (gz _ x1 x2 x3 x4 k1 k2 k3 k4 t3 t4 ep ep2 ep4 out fin es G (p1::rl) h hm (Fa h6)) [2,3,4,5] (FL _) λ(z1:cZ)m2 kk2 g2 hc1=>?_
    intro sS
    refine cf (L':=3) (hd':=none) F Z 47 0x1030000000c00000c00000c11c0001000041 (aQ w.params x1 x2 x3 x4 k1 k2 k3 k4 z1.t3 t4 ep z1.out fin++[(x3+937,ae es ep2),(x4+937,aa [] z1.e4)]) (GO z1.G) (RO acc) (λ(z2:cZ)=>aQ w.params x1 x2 x3 x4 k1 k2 k3 k4 z2.t3 t4 ep z2.out fin++[(x3+937,ae es ep2),(x4+937,aa [] z2.e4)]) (λ(z2:cZ)=>[(z2.y+937,aW ([].map sv))]) (λ(z2:cZ)=>GO z2.G) (gz _ x1 x2 x3 x4 k1 k2 k3 k4 z1.t3 t4 ep ep2 z1.e4 z1.out fin es z1.G [] (hc1.1▸h) (λ_ q=>by cases q) (Nat.zero_le _)) [2,3,4,5] (FL _) λ(z2:cZ)m3 kk3 g3 hc2=>?_
    intro sS
    refine kc F Z 4 0 (TH (z2.y+937) (m3+937)) .NotEq (z2.y+937) (m3+937) ?_
    intro sS
    refine cx (L':=1) (hd':=none) F Z 33 0x1030000000c00000c00000c1248248fc8248 (dG _ x1 x2 x3 x4 k1 k2 k3 k4 z2.t3 t4 ep z2.e4 z2.out fin [] (Nat.zero_le _)) [2,3,5] λ(a2:Bool)m4 kk4 g4 ha2=>?_
    show Gd _ _
    obtain rfl:a2=true:=by rw[ha2,decide_eq_true (yq hof hc1.2.2 hc2.2.2)];rfl
    have eA:ao z2.G=ba ((p1::rl).map (·.1)) (ao G):=hc2.2.1.trans hc1.2.1
    refine cx (L':=0) (hd':=none) F Z 37 0x1c10000001000c30000000000c00000c1 (eS (y:=z1.y) (ep:=0) (vs:=(p1::rl).map sv) (b:=false) (hz h6)) [6] λ(c5:Nat×Nat)m5 kk5 g5 _=>?_
    intro sS
    refine ze F 4 651 (qu (oQ w.params lo) (zO (.ref (m4+937)::PySem.W.R.appendR ((p1::rl).map sv).reverse []) (rA (.ref (m4+937)) ((p1::rl).map sv) []))) (qu (oQ w.params lo) (zO [.ref (m4+937)] (rA (.ref (m4+937)) ((p1::rl).map sv) []))) (congrArg _ (ym _)) (by kernel_rfl) (by kernel_rfl) (by kernel_rfl) ?_
    refine cf (L':=3) (hd':=none) F Z 0 0 ([(m4+937,oD 150 (x1+937))]++(aQ w.params x1 x2 x3 x4 k1 k2 k3 k4 z2.t3 t4 ep z2.out fin++[(x3+937,ae es ep2),(x4+937,aa [] z2.e4)])) (GO z2.G) (RO acc) (λ(z3:mn)=>[(m4+937,oD 150 (x1+937))]++(aQ w.params x1 x2 x3 x4 k1 k2 k3 k4 z2.t3 z3.t4 ep z2.out z3.fin++[(x3+937,ae es ep2),(x4+937,aa (z3.rl.map sv) z3.ep4)])) (λ(z3:mn)=>[]) (λ(z3:mn)=>GO z3.G) (oE (mm:=m4) (tD _ x1 x2 x3 x4 k1 k2 k3 k4 z2.t3 t4 ep ep2 z2.e4 z2.out fin es (p1::rl) z2.G [] h6 (hc2.1.trans hc1.1▸h) (yp so eA) so.nd (yo so eA) (uV so eA) (yr so eA) (yt h6)) (λ_ _ _ _ hh=>hh)) [9,2,3,4,5] (FL _) λ(z3:mn)m6 kk6 g6 hc3=>?_
    intro sS
    refine cx (L':=1) (hd':=none) F Z 16 4398080598145 (o8 (y:=z1.y) (ps:=p1::rl) (k6 h6)) [6] λ(ys:Nat×List SV×Nat)m8 kk8 g8 hys=>?_
    intro sS
    refine cx (L':=0) (hd':=none) F Z 2 0 (af (x:=y) (ep:=ey) (v:=.ref (ys.1+937)) hrs) [1] λ_ m9 kk9 g9 _=>?_
    intro sS
    have z:=ih (acc++[ys]) (some (kk2,.ref (z1.y+937))) (ee+1) z2.t3 z3.t4 z3.ep4 (ey+1) z2.out z3.fin z3.G z3.rl (hc3.1.trans (hc2.1.trans hc1.1)▸h) (qY eA hc3.2.1 hg) (uT hof hc1.2.2 hc2.2.2 hc3.2.2) (by rw[FZ];simp only[FT,List.length_nil];lia)
    rw[kK]at z
    refine da F 1 0 ?_
    intro sS
    refine aw [0,1,2,3,4,5] [11] [(ys.1+937,aa (ys.2.1.map sv) ys.2.2)] [] (GO z3.G++RO (acc++[ys])) (qZ (GO z3.G) acc ys) ?_
    intro sS
    exact ax F E Z 0 0 _ (GO z3.G++RO (acc++[ys])) [] z [0,1,2,3,4,5] (by rw[FK]) (λ_ x _ hC=>⟨x,q9 (t:=ys) hys eA hc3.2.1 hC,rfl,λ_ h=>h,id⟩)
  ·rcases rl with _|⟨p1,rl⟩
   ·exact absurd rfl hne0
   ·skip
    refine cx (L':=1) (hd':=none) F Z 21 0x1030000000c00000c00000c1 (dG _ x1 x2 x3 x4 k1 k2 k3 k4 t3 t4 ep ep4 out fin ((p1::rl).map sv) (hz h6)) [2,3,5] λ(a1:Bool)m1 kk1 g1 ha1=>?_
    show Gd _ _
    obtain rfl:a1=true:=by rw[ha1,Bool.or_comm];rfl
    refine cf (L':=3) (hd':=none) F Z 24 0x1030000000c00000c00000c1 (aQ w.params x1 x2 x3 x4 k1 k2 k3 k4 t3 t4 ep out fin++[(x3+937,ae es ep2),(x4+937,aa ((p1::rl).map sv) ep4)]) (GO G) (RO acc) (λ(z1:cZ)=>aQ w.params x1 x2 x3 x4 k1 k2 k3 k4 z1.t3 t4 ep z1.out fin++[(x3+937,ae es ep2),(x4+937,aa [] z1.e4)]) (λ(z1:cZ)=>[(z1.y+937,aW ((p1::rl).map sv))]) (λ(z1:cZ)=>GO z1.G) (gz _ x1 x2 x3 x4 k1 k2 k3 k4 t3 t4 ep ep2 ep4 out fin es G (p1::rl) h hm (Fa h6)) [2,3,4,5] (FL _) λ(z1:cZ)m2 kk2 g2 hc1=>?_
    intro sS
    refine cf (L':=3) (hd':=none) F Z 47 0x1030000000c00000c00000c11c0001000041 (aQ w.params x1 x2 x3 x4 k1 k2 k3 k4 z1.t3 t4 ep z1.out fin++[(x3+937,ae es ep2),(x4+937,aa [] z1.e4)]) (GO z1.G) (RO acc) (λ(z2:cZ)=>aQ w.params x1 x2 x3 x4 k1 k2 k3 k4 z2.t3 t4 ep z2.out fin++[(x3+937,ae es ep2),(x4+937,aa [] z2.e4)]) (λ(z2:cZ)=>[(z2.y+937,aW ([].map sv))]) (λ(z2:cZ)=>GO z2.G) (gz _ x1 x2 x3 x4 k1 k2 k3 k4 z1.t3 t4 ep ep2 z1.e4 z1.out fin es z1.G [] (hc1.1▸h) (λ_ q=>by cases q) (Nat.zero_le _)) [2,3,4,5] (FL _) λ(z2:cZ)m3 kk3 g3 hc2=>?_
    intro sS
    refine kc F Z 4 0 (TH (z2.y+937) (m3+937)) .NotEq (z2.y+937) (m3+937) ?_
    intro sS
    refine cx (L':=1) (hd':=none) F Z 33 0x1030000000c00000c00000c1248248fc8248 (dG _ x1 x2 x3 x4 k1 k2 k3 k4 z2.t3 t4 ep z2.e4 z2.out fin [] (Nat.zero_le _)) [2,3,5] λ(a2:Bool)m4 kk4 g4 ha2=>?_
    show Gd _ _
    obtain rfl:a2=true:=by rw[ha2,decide_eq_true (yq hof hc1.2.2 hc2.2.2)];rfl
    have eA:ao z2.G=ba ((p1::rl).map (·.1)) (ao G):=hc2.2.1.trans hc1.2.1
    refine cx (L':=0) (hd':=none) F Z 37 0x1c10000001000c30000000000c00000c1 (eS (y:=z1.y) (ep:=0) (vs:=(p1::rl).map sv) (b:=false) (hz h6)) [6] λ(c5:Nat×Nat)m5 kk5 g5 _=>?_
    intro sS
    refine ze F 4 651 (qu (oQ w.params lo) (zO (.ref (m4+937)::PySem.W.R.appendR ((p1::rl).map sv).reverse []) (rA (.ref (m4+937)) ((p1::rl).map sv) []))) (qu (oQ w.params lo) (zO [.ref (m4+937)] (rA (.ref (m4+937)) ((p1::rl).map sv) []))) (congrArg _ (ym _)) (by kernel_rfl) (by kernel_rfl) (by kernel_rfl) ?_
    refine cf (L':=3) (hd':=none) F Z 0 0 ([(m4+937,oD 150 (x1+937))]++(aQ w.params x1 x2 x3 x4 k1 k2 k3 k4 z2.t3 t4 ep z2.out fin++[(x3+937,ae es ep2),(x4+937,aa [] z2.e4)])) (GO z2.G) (RO acc) (λ(z3:mn)=>[(m4+937,oD 150 (x1+937))]++(aQ w.params x1 x2 x3 x4 k1 k2 k3 k4 z2.t3 z3.t4 ep z2.out z3.fin++[(x3+937,ae es ep2),(x4+937,aa (z3.rl.map sv) z3.ep4)])) (λ(z3:mn)=>[]) (λ(z3:mn)=>GO z3.G) (oE (mm:=m4) (tD _ x1 x2 x3 x4 k1 k2 k3 k4 z2.t3 t4 ep ep2 z2.e4 z2.out fin es (p1::rl) z2.G [] h6 (hc2.1.trans hc1.1▸h) (yp so eA) so.nd (yo so eA) (uV so eA) (yr so eA) (yt h6)) (λ_ _ _ _ hh=>hh)) [9,2,3,4,5] (FL _) λ(z3:mn)m6 kk6 g6 hc3=>?_
    intro sS
    refine cx (L':=1) (hd':=none) F Z 16 4398080598145 (o8 (y:=z1.y) (ps:=p1::rl) (k6 h6)) [6] λ(ys:Nat×List SV×Nat)m8 kk8 g8 hys=>?_
    intro sS
    refine cx (L':=0) (hd':=none) F Z 2 0 (af (x:=y) (ep:=ey) (v:=.ref (ys.1+937)) hrs) [1] λ_ m9 kk9 g9 _=>?_
    intro sS
    have z:=ih (acc++[ys]) (some (q3,.ref (z1.y+937))) ee z2.t3 z3.t4 z3.ep4 (ey+1) z2.out z3.fin z3.G z3.rl (hc3.1.trans (hc2.1.trans hc1.1)▸h) (qY eA hc3.2.1 hg) (uT hof hc1.2.2 hc2.2.2 hc3.2.2) (by rw[FZ];simp only[FT,List.length_nil];lia)
    rw[kK]at z
    refine da F 1 0 ?_
    intro sS
    refine aw [0,1,2,3,4,5] [11] [(ys.1+937,aa (ys.2.1.map sv) ys.2.2)] [] (GO z3.G++RO (acc++[ys])) (qZ (GO z3.G) acc ys) ?_
    intro sS
    exact ax F E Z 0 0 _ (GO z3.G++RO (acc++[ys])) [] z [0,1,2,3,4,5] (by rw[FK]) (λ_ x _ hC=>⟨x,q9 (t:=ys) hys eA hc3.2.1 hC,rfl,λ_ h=>h,id⟩)
noncomputable def ch(M:PL):Nat→Nat→List (List Str)
 |0,_=>[]
 |m+1,i=>dm i M::ch M m (i+1)
noncomputable abbrev bq(t:RL)(R:List Str):Prop:=eH (t.2.1.map (·.1)) R
structure yL where
 k:Nat
 acc:List RL
 ea:Nat
 ck:Option Value
theorem yJ(acc:List RL)(t:RL):([(t.1+937,aa (t.2.1.map sv) t.2.2)]++RO acc).Perm ([]++RO (acc++[t])):=by
 unfold RO
 rw[FM]
 exact List.perm_append_comm (l₁:=[(t.1+937,aa (t.2.1.map sv) t.2.2)]) (l₂:=acc.map λt=>(t.1+937,aa (t.2.1.map sv) t.2.2))
theorem xo(k:Nat)(M:PL):(dm k M).length≤M.length:=by
 unfold dm
 rw[FQ]
 exact List.length_filter_le _ _
theorem xt{w:World}{y ac lo lc kz dz ed ec:Nat}{es:List DictEntry}{L:LV}(hkv:KV (IK w) es (fN L))(h6:∀k∈L.map (·.1),k<6)(hne:L≠[]):∀(m i:Nat)(acc:List RL)(ea:Nat)(ck:Option Value),acc.length+m≤100→
  Spec w 3 none (zI w.params y ac lo lc kz) ([(y+937,bP (i:Nat) (m:Nat) (1:Nat)),(ac+937,aa (aM acc) ea),(lc+937,ae [] ec),(kz+937,aC ck),(lo+2+937,aC (some (.ref (dz+937)))),(dz+937,ae es ed)]++RO acc)
   (X:=yL) (λ_ r=>∃nw,r.acc=acc++nw∧bV bq nw (ch (e9 L) m i)) (λ_=>.ok .next) (λr=>[(y+937,bP (r.k:Nat) (0:Nat) (1:Nat)),(ac+937,aa (aM r.acc) r.ea),(lc+937,ae [] ec),(kz+937,aC r.ck),(lo+2+937,aC (some (.ref (dz+937)))),(dz+937,ae es ed)]++RO r.acc):=by
 have hl:L.length≤100:=by have:=fZ 6 (L.map (·.1)) (dS hkv.2.2) h6;rw[FQ]at this;lia
 have hl6:L.length≤6:=by have:=fZ 6 (L.map (·.1)) (dS hkv.2.2) h6;rwa[FQ]at this
 intro m
 induction m with
 |zero =>
  intro i acc ea ck ha
  refine aA _ _ λA R d os hb m0 g tk b Z F E=>?_
  exact fx F E 14 8606978113 [0,1,2,3,4,5] ⟨i,acc,ea,ck⟩ _ (RO acc) [] (by rw[FK]) rfl ⟨[],(FK _).symm,.nil⟩
 |succ m ih =>
  intro i acc ea ck ha
  have hrs:(aM acc).length≤sizeLine:=by unfold aM;rw[FQ,sizeLine_eq];lia
  have k6:∀r:Cv,r.ss.map (·.1)=dm i (e9 L)→r.ss.length<64:=λr h=>by
   have h1:=congrArg List.length h
   rw[FQ]at h1
   have h2:=xo i (e9 L)
   have h3:(e9 L).length=L.length:=FQ ..
   lia
  have J:=λ(t:RL)(ea:Nat)(ck:Option Value)=>ih (i+1) (acc++[t]) ea ck (by rw[FZ];simp only[FT,List.length_nil];lia)
  simp only[kK]at J
  clear ih
  refine aA _ _ λA R d os hb m0 g tk b Z F E=>?_
  refine cx (L':=0) (hd':=none) F Z 2 1 (cy (y:=y) (i:=i) (m:=m) (st:=1)) [0] λt m1 kk1 g1 _=>?_
  intro sS
  refine cx (L':=2) (hd':=none) F Z 25 0x7186186fc6185000104 (uF (y:=m1) (ac:=m1+1) (lo:=lo) (lc:=m1+2) (kz:=kz) (dz:=dz) (ed:=ed) (k:=i) (tq:=t) hkv h6 hne hl) [6,5,7,8,4,3] λ(r:Cv)m2 kk2 g2 hr1=>?_
  intro sS
  refine cx (L':=1) (hd':=none) F Z 6 37449 (vp (y:=m1+1) (ep:=r.ea) (ps:=r.ss) (k6 r hr1)) [7] λ(z:Nat×List SV×Nat)m3 kk3 g3 hz1=>?_
  intro sS
  refine cx (L':=0) (hd':=none) F Z 1 0 (af (x:=ac) (ep:=ea) (v:=.ref (z.1+937)) hrs) [1] λ_ m4 kk4 g4 _=>?_
  intro sS
  refine da F 0 0 ?_
  intro sS
  refine aw [0,1,2,3,4,5] [9] [(z.1+937,aa (z.2.1.map sv) z.2.2)] [] (RO (acc++[z])) (yJ acc z) ?_
  intro sS
  refine ax F E Z 0 0 _ (RO (acc++[z])) [] (J z (ea+1) (some (.int (i:Nat) t))) [0,1,2,3,4,5] (by rw[FK]) (λ_ x _ hC=>⟨x,?_,rfl,λ_ h=>h,id⟩)
  obtain⟨nw,e1,e2⟩:=hC
  exact⟨z::nw,by rw[e1,FV];rfl,.cons ⟨hr1▸hz1.1,hz1.2⟩ e2⟩
theorem vi{w:World}{y ac lo lc kz dz ed m:Nat}{es:List DictEntry}{L:LV}(hkv:KV (IK w) es (fN L))(h6:∀k∈L.map (·.1),k<6)(hne:L≠[])(hm:m≤100):
  Spec w 3 none (xr w.params y ac lo lc kz) ([(y+937,bP (0:Nat) (m:Nat) (1:Nat)),(ac+937,aa (aM []) 0),(lc+937,ae [] 0),(kz+937,aC none),(lo+2+937,aC (some (.ref (dz+937)))),(dz+937,ae es ed)]++RO [])
   (X:=yL) (λ_ r=>bV bq r.acc (ch (e9 L) m 0)) (λ_=>.ok .next) (λr=>[(y+937,bP (r.k:Nat) (0:Nat) (1:Nat)),(ac+937,aa (aM r.acc) r.ea),(lc+937,ae [] 0),(kz+937,aC r.ck),(lo+2+937,aC (some (.ref (dz+937)))),(dz+937,ae es ed)]++RO r.acc):=by
 have S:=xt (w:=w) (y:=y) (ac:=ac) (lo:=lo) (lc:=lc) (kz:=kz) (dz:=dz) (ed:=ed) (ec:=0) hkv h6 hne m 0 [] 0 none (by rw[List.length_nil];lia)
 obtain⟨v,b1,b2,b3,rfl⟩:=al w
 have z:=bC (C:=λr:yL=>∃nw,r.acc=[]++nw∧bV bq nw (ch (e9 L) m 0)) (o:=bP (0:Nat) (m:Nat) (1:Nat)) S (λb tk=>by refine Bool.rec ?_ ?_ b2<;>kernel_rfl)
 refine z.convP (Nat.le_refl _) (FL _) λn r hC=>⟨r,?_,rfl,FL _⟩
 obtain⟨nw,e1,e2⟩:=hC
 rw[e1];exact e2
noncomputable abbrev eP(ars:List Ar):List Nat:=ars.flatMap λx=>[x.a,x.b]
noncomputable def lj(ars:List Ar)(ws:List Nat):List (List Str):=ch (bS ars ws ws.length []) (gZ ((bS ars ws ws.length []).map (·.2))+1) 0
theorem BX(M:PL)(k v:Nat):rq M k v≠[]:=by
 cases M with
 |nil=>exact List.cons_ne_nil _ _
 |cons p M=>rw[rq];split<;>exact List.cons_ne_nil _ _
theorem qy(ars:List Ar):∀(ws:List Nat)(M:PL),M≠[]∨ws≠[]→ws.foldl (cO ars) M≠[]
 |[],M,h=>h.elim id λh=>absurd rfl h
 |a::ws,M,_=>qy ars ws _ (.inl (BX _ _ _))
theorem rI(ars:List Ar){ws:List Nat}(hw:ws≠[]):∀(n:Nat)(M:PL),M≠[]∨n≠0→bS ars ws n M≠[]
 |0,M,h=>h.elim id λh=>absurd rfl h
 |n+1,M,_=>rI ars hw n _ (.inl (qy ars ws M (.inr hw)))
structure s5 where
 y:Nat
 acc:List RL
 ea:Nat
theorem zm{w:World}:KV (IK w) [] (fN []):=⟨λ_ h=>absurd h (by simp),.nil,List.nodup_nil⟩
theorem iU(ars:List Ar):(ars.flatMap sU).map (·.1)=eP ars:=by
 unfold eP
 induction ars with
 |nil=>rfl
 |cons x r ih=>rw[List.flatMap_cons,FM,ih,List.flatMap_cons];rfl
theorem Bw{ars:List Ar}{W:List NV}{L:LV}(hne:ars≠[])(hp:(W.map (·.1)).Perm ((ars.flatMap sU).map (·.1)))(h:e9 L=bS ars (W.map (·.1)) W.length (e9 [])):L≠[]:=by
 rintro rfl
 have hw:W.map (·.1)≠[]:=λe=>by
  rw[e,iU]at hp
  have:=hp.length_eq
  cases ars with
  |nil=>exact hne rfl
  |cons x r=>unfold eP at this;rw[List.flatMap_cons,FZ]at this;simp only[FT,List.length_nil]at this;lia
 have hn:W.length≠0:=λe=>hw (by rw[List.length_eq_zero_iff.mp e];rfl)
 exact rI ars hw W.length (e9 []) (.inr hn) h.symm
theorem Bv{ars:List Ar}{W:List NV}{L:LV}{p:Nat×NV}{rem:LV}{q:NV×Nat}(hp:L=p::rem)(hq:q.1.1=dD p.2.1 ((rem.map (·.2)).map (·.1)))(h:e9 L=bS ars (W.map (·.1)) W.length (e9 [])):
  q.1.1=gZ ((bS ars (W.map (·.1)) (W.map (·.1)).length []).map (·.2)):=by
 have e:(W.map (·.1)).length=W.length:=FQ ..
 rw[e]
 have h':bS ars (W.map (·.1)) W.length []=e9 L:=h.symm
 rw[h',hp,hq]
 unfold e9
 rw[FR,FR,gZ,List.map_map,List.map_map]
 rfl
theorem zl{ars:List Ar}{W:List NV}{L:LV}{q:Nat}(hq:q=gZ ((bS ars (W.map (·.1)) (W.map (·.1)).length []).map (·.2)))(h:e9 L=bS ars (W.map (·.1)) W.length (e9 [])):ch (e9 L) (q+1) 0=lj ars (W.map (·.1)):=by
 have e:(W.map (·.1)).length=W.length:=FQ ..
 unfold lj
 rw[←hq,h,e]
 rfl
theorem ou{w:World}{x ep:Nat}{ars:List Ar}(hne:ars≠[])(ha6:∀x∈ars,x.a<6∧x.b<6)(hl:ars.length≤9)
  (hB:∀ws:List Nat,ws.Perm (eP ars)→ws.Pairwise (·≤·)→gZ ((bS ars ws ws.length []).map (·.2))≤50):
  Spec w 4 none (.call (.ref 931) ⟨[.ref (x+937)],[]⟩) ([(x+937,aa (ars.map bT) ep)]++ars.map aO)
   (X:=s5) (λ_ r=>∃ws,ws.Perm (eP ars)∧ws.Pairwise (·≤·)∧bV bq r.acc (lj ars ws)) (λr=>.ok (.ret (.ref (r.y+937))))
   (λr=>[(x+937,aa (ars.map bT) ep)]++[(r.y+937,aa (aM r.acc) r.ea)]++(RO r.acc++ars.map aO)):=by
 have hla:ars.length≤100:=by lia
 have hl2:2*ars.length≤100:=by lia
 have hwl:(ars.flatMap sU).length=2*ars.length:=by
  rw[List.length_flatMap]
  clear hne ha6 hl hla hl2 hB
  induction ars with
  |nil=>rfl
  |cons x r ih=>rw[FR,List.sum_cons,ih];simp only[FT,List.length_nil];lia
 have k6:(ars.flatMap sU).length<64:=by lia
 have hmem:∀n∈eP ars,n<6:=λn hn=>by
  obtain⟨x,hx,h⟩:=List.mem_flatMap.mp hn
  have:=ha6 x hx
  simp only[FY,FU,or_false]at h
  rcases h with rfl|rfl
  ·exact this.1
  ·exact this.2
 have hW:∀W:List NV,(W.map (·.1)).Perm ((ars.flatMap sU).map (·.1))∧(W.map (·.1)).Pairwise (·≤·)→∀p∈W,p.1<6:=λW h p hp=>hmem p.1 (iU ars▸h.1.mem_iff.mp (FP hp))
 refine aA _ _ λA R d os hb m0 g tk b Z F E=>?_
 refine ex F Z 9 532480 ?_
 intro sS
 refine cf (L':=2) (hd':=none) F Z 20 22126614814720 ([(b+3+937,ai (x+937) 0),(x+937,aa (ars.map bT) ep),(b+4+937,aa ([].map nv) 0),(b+5+937,ae (Al w.params none) 0)]) (ars.map aO) ([]) (λ(r:AT)=>[(b+3+937,av r.i),(x+937,aa (ars.map bT) ep),(b+4+937,aa ((ars.flatMap sU).map nv) r.ea),(b+5+937,ae (Al w.params (some r.o)) r.ec)]) (λ(r:AT)=>[]) (λ(r:AT)=>ars.map aO) (vQ (x:=x) (y:=b+3) (ac:=b+4) (lo:=b) (lc:=b+5) (ep:=ep) hl2 hne) [4,0,5,6] (by rw[FK]) λ(r:AT)m1 kk1 g1 _=>?_
 intro sS
 refine cx (L':=1) (hd':=none) F Z 11 7635497415 (vo (y:=b+4) (ep:=r.ea) (ps:=ars.flatMap sU) k6) [5] λ(z:Nat×List NV×Nat)m2 kk2 g2 hz1=>?_
 intro sS
 refine cf (L':=3) (hd':=none) F Z 29 0x288fc8202104082 ([(m2+1+937,ai (z.1+937) 0),(z.1+937,aa (z.2.1.map nv) z.2.2),(b+937,wT w.params tk kk2 x z.1 none 2),(b+1+937,aC none),(b+2+937,aC (some (.ref (m2+937)))),(m2+937,ae [] 0),(x+937,aa (ars.map bT) ep)]) (ars.map aO) ([]) (λ(q:An)=>[(m2+1+937,av q.i),(z.1+937,aa (z.2.1.map nv) z.2.2),(b+937,wT w.params tk kk2 x z.1 q.o q.ee),(b+1+937,aC q.cw),(b+2+937,aC (some (.ref (m2+937)))),(m2+937,ae q.es q.ed),(x+937,aa (ars.map bT) ep)]) (λ(q:An)=>[]) (λ(q:An)=>ars.map aO) (uu (x:=x) (y:=m2+1) (lo:=b) (ep:=ep) (dz:=m2) (wz:=z.1) (ew:=z.2.2) (q1:=tk) (q2:=kk2) hla hne (hW z.2.1 hz1) z.2.1 0 [] [] 0 none none 2 rfl zm (λ_ h=>absurd h FU)) [9,7,1,2,3,8,0] (by rw[FK]) λ(q:An)m3 kk3 g3 hq1=>?_
 intro sS
 refine da F 24 0x9249249244000000 ?_
 intro sS
 have hLne:q.L≠[]:=Bw hne hz1.1 hq1.2.1
 obtain⟨p,rem',hp⟩:=List.exists_cons_of_ne_nil hLne
 refine cx (L':=1) (hd':=none) F Z 0 0 (uz (x:=m2) (z:=m3) (ep:=q.ed) hq1.1 hp) [10,8] λ(qm:NV×Nat)m4 kk4 g4 hqm=>?_
 intro sS
 have hmx:qm.1.1=gZ ((bS ars (z.2.1.map (·.1)) (z.2.1.map (·.1)).length []).map (·.2)):=Bv hp hqm hq1.2.1
 have hm50:=hB (z.2.1.map (·.1)) (iU ars▸hz1.1) hz1.2
 have hm100:qm.1.1+1≤100:=by lia
 have hrs:=gj (m:=qm.1.1+1) (wd:=1) (n:=qm.1.1+1) (Nat.mul_one _).symm Nat.one_pos (by lia) (by lia)
 have hfin:ch (e9 q.L) (qm.1.1+1) 0=lj ars (z.2.1.map (·.1)):=zl hmx hq1.2.1
 refine cx (post:=λnn=>[(m4+937,fC 0 (qm.1.1+1:Nat) 1 (kk4+2) (kk4+1) (kk4+3))]++[(nn+937,bP (0:Nat) (qm.1.1+1:Nat) (1:Nat))]) (L':=0) (hd':=none) F Z 30 4342416458508 (dY (r:=m4) (a:=0) (b:=(qm.1.1+1:Nat)) (c:=1) (n:=(qm.1.1+1:Nat)) hrs.1 hrs.2) [11] λnn m5 kk5 g5 _=>?_
 intro sS
 refine cf (L':=3) (hd':=none) F Z 4 13 ([(nn+937,bP (0:Nat) (qm.1.1+1:Nat) (1:Nat)),(m5+937,aa (aM []) 0),(m5+1+937,ae [] 0),(m5+2+937,aC none),(b+2+937,aC (some (.ref (m2+937)))),(m2+937,ae q.es q.ed)]) (RO []) (ars.map aO) (λ(u:yL)=>[(nn+937,bP (u.k:Nat) (0:Nat) (1:Nat)),(m5+937,aa (aM u.acc) u.ea),(m5+1+937,ae [] 0),(m5+2+937,aC u.ck),(b+2+937,aC (some (.ref (m2+937)))),(m2+937,ae q.es q.ed)]) (λ(u:yL)=>[]) (λ(u:yL)=>RO u.acc) (vi (y:=nn) (ac:=m5) (lo:=b) (lc:=m5+1) (kz:=m5+2) (dz:=m2) (ed:=q.ed) (m:=qm.1.1+1) hq1.1 hq1.2.2.1 hLne hm100) [12,13,14,15,3,8] (by rw[FK];exact FL _) λ(u:yL)m6 kk6 g6 hu1=>?_
 intro sS
 exact fx F E 1 0 [0,13] ⟨m5,u.acc,u.ea⟩ [(x+937,aa (ars.map bT) ep),(m5+937,aa (aM u.acc) u.ea)] (RO u.acc++ars.map aO) [] (by rw[FK]) rfl ⟨z.2.1.map (·.1),iU ars▸hz1.1,hz1.2,hfin▸hu1⟩
noncomputable abbrev gW(i:Nat):Stmt:=br (aE (aj 44)) i
noncomputable abbrev fW(P:Params)(lo:Nat):Env:=bH 936 (xc P) lo
noncomputable abbrev nF:Expr:=eJ (gW 1)
noncomputable abbrev gq:Expr:=eJ (gW 2)
noncomputable abbrev gE:Expr:=eQ (eJ (gW 3))
noncomputable abbrev kx:Expr:=eJ (gW 5)
noncomputable abbrev zi:Expr:=eJ (gW 6)
noncomputable abbrev yu:Expr:=eJ (gW 8)
noncomputable abbrev pd(P:Params)(e:Expr)(lo lc:Nat):Env:={fL e (fW P lo) lc with scope:=iu (bZ e),cells:=[(u [116,97,112,101],lo+938)]}
noncomputable abbrev sg(k:Expr→Nat→Value→Value→Env→Code)(e:Expr)(y ac:Nat)(env:Env):Code:=k e 0 (.ref (y+937)) (.ref (ac+937)) env
noncomputable def En:Expr→Expr
 |.Tuple (_::e::_) _ _=>e
 |_=>.Name ⟨#[]⟩ default
noncomputable def AY:Expr→Expr
 |.Compare e _ _ _=>e
 |_=>.Name ⟨#[]⟩ default
noncomputable def CS:Expr→Expr
 |.Compare _ _ (e::_) _=>e
 |_=>.Name ⟨#[]⟩ default
noncomputable abbrev me:Expr:=eQ (En (eJ (gW 10)))
noncomputable abbrev rb:Expr:=AY (nt (gW 11))
noncomputable abbrev Fc:Expr:=qo kx
noncomputable abbrev Fb(k:Expr→Nat→Value→Value→Env→Code)(P:Params)(y ac lo lc:Nat):Code:=sg k Fc y ac (fL Fc (fW P lo) lc)
noncomputable abbrev wN:Expr:=CS (jc (gW 7))
noncomputable abbrev pP(k:Expr→Nat→Value→Value→Env→Code)(P:Params)(e:Expr)(y ac lo lc:Nat):Code:=sg k e y ac (fL e (fW P lo) lc)
noncomputable def y6:Expr→Expr
 |.BoolOp _ (e::_) _=>e
 |_=>.Name ⟨#[]⟩ default
noncomputable abbrev Fn:Expr:=AY (y6 (jc (gW 4)))
noncomputable def oB{α:Type}:Nat→(Nat→α)→List α
 |0,_=>[]
 |n+1,f=>f 0::oB n λi=>f (i+1)
theorem pM{α:Type}(d:α):∀l:List α,∃f,l=oB l.length f
 |[]=>⟨λ_=>d,rfl⟩
 |a::l=>by
  obtain⟨f,e⟩:=pM d l
  exact⟨λi=>match i with|0=>a|i+1=>f i,by show a::l=a::oB l.length f;rw[←e]⟩
noncomputable def jY(n:Nat):Prop:=n=10∨n=12∨n=14∨n=16∨n=18
theorem rN{w:World}{cs:List UInt8}{y:Nat}{t k:Tok}(hn:jY cs.length):Spec w 0 none (.call (.builtin "bytes.__getitem__") ⟨[.bytes ⟨cs⟩ t,.ref (y+937)],[]⟩) [(y+937,hK .none .none (.int (-1) k))] (X:=Tok) (λ_ _=>True) (λt'=>.ok (.ret (.bytes ⟨cs.reverse⟩ t'))) (λ_=>[(y+937,hK .none .none (.int (-1) k))]++[]):=by
 obtain⟨v,b1,b2,b3,rfl⟩:=al w
 unfold jY at hn
 obtain⟨f,e⟩:=pM 0 cs
 rcases hn with h|h|h|h|h
 all_goals
  rw[h]at e
  subst e
  clear h
  refine ak λA R d os hb m0 g tk b Z F E=>?_
  exact fx F E 7 17043521 [0] tk _ [] [] (FL _) (FK _).symm trivial (by kernel_rfl) (by kernel_rfl) (by kernel_rfl) (by kernel_rfl)
theorem CY{w:World}{y x ac lo lc ex t1 t2 t3:Nat}{c1 c2 c3:List UInt8}:
  Spec w 1 none (pP Code.compStart w.params Fn y ac lo lc) ([(y+937,ai (x+937) 0)]++[(x+937,aa [.bytes ⟨c1⟩ t1,.bytes ⟨c2⟩ t2,.bytes ⟨c3⟩ t3] ex),(ac+937,aa [] 0),(lc+937,ae [] 0)])
   (X:=Tok) (λ_ _=>True) (λ_=>.ok .next) (λq=>[(y+937,av 3),(x+937,aa [.bytes ⟨c1⟩ t1,.bytes ⟨c2⟩ t2,.bytes ⟨c3⟩ t3] ex),(ac+937,aa [.bool true,.bool true,.bool true] 3),(lc+937,ae [de w.params U7 q (.bytes ⟨c3⟩ t3)] 1)]++[]):=by
 obtain⟨v,b1,b2,b3,rfl⟩:=al w
 refine bC (C:=λ_=>True) ?_ (λb tk=>by refine Bool.rec ?_ ?_ b2<;>kernel_rfl)
 refine ak λA R d os hb m0 g tk b Z F E=>?_
 exact fx F E 139 0x1810420410410c30c30001000041010420410410c30c30001000041010420410410c30c3000100004101042041041 [0,1,2,3] tk _ [] [] (FL _) (FK _).symm trivial
theorem zJ{w:World}{L:Nat}{hd:Option Value}{x y ep:Nat}{t:Tok}{ps:List IV}(hl:ps.length≤1000):Spec w L hd (.call (.builtin "list.__getitem__") ⟨[.ref (x+937),.ref (y+937)],[]⟩) [(x+937,aa (ps.map iv) ep),(y+937,hK .none (.int 4 t) .none)] (X:=Nat) (λ_ _=>True) (λn=>.ok (.ret (.ref (n+937))))
  (λn=>[(x+937,aa (ps.map iv) ep),(y+937,hK .none (.int 4 t) .none)]++[(n+937,aa ((ps.take 4).map iv) 0)]):=by
 have z:=kq (w:=w) (L:=L) (hd:=hd) (x:=x) (y:=y) (ep:=ep) (vs:=ps.map iv) .none (.int 4 t) .none (by decide) (by rw[FQ,sizeLine_eq];lia)
 have e:(slicePick ⟨ps.map iv⟩ none (some 4) none).toList=(ps.take 4).map iv:=by
  match ps with
  |[]=>rfl
  |[a] =>
   unfold slicePick
   rw[show sliceBounds none (some 4) none (⟨([a]:List IV).map iv⟩:Array Value).size=(0,1,1)from(by decide +kernel:sliceBounds none (some 4) none 1=(0,1,1))]
   rfl
  |[a,b] =>
   unfold slicePick
   rw[show sliceBounds none (some 4) none (⟨([a,b]:List IV).map iv⟩:Array Value).size=(0,2,1)from(by decide +kernel:sliceBounds none (some 4) none 2=(0,2,1))]
   rfl
  |[a,b,c] =>
   unfold slicePick
   rw[show sliceBounds none (some 4) none (⟨([a,b,c]:List IV).map iv⟩:Array Value).size=(0,3,1)from(by decide +kernel:sliceBounds none (some 4) none 3=(0,3,1))]
   rfl
  |a::b::c::d::r =>
   unfold slicePick
   have hb:sliceBounds none (some 4) none (⟨(a::b::c::d::r).map iv⟩:Array Value).size=(0,4,1):=by
    have hs:(⟨(a::b::c::d::r).map iv⟩:Array Value).size=r.length+4:=by
     show((a::b::c::d::r).map iv).length=_
     rw[FQ];rfl
    rw[hs]
    unfold sliceBounds
    simp
    lia
   rw[hb]
   rfl
 rw[e]at z
 exact z
theorem mC{w:World}{x ep:Nat}{is:List Nat}{us:List NV}(hp:us.map (·.1)=is)(hi:∀i∈is,i<6)(hl6:is.length≤100):Spec w 1 none (.call (.builtin "bytes.__new__") ⟨[.type "bytes",.ref (x+937)],[]⟩) [(x+937,aa (us.map nv) ep)]
  (X:=xT) (λ_ _=>True) (λr=>.ok (.ret (.bytes ⟨is.map u8⟩ r.t))) (λ_=>[(x+937,aa (us.map nv) ep)]++[]):=by
 have z:=lC (w:=w) (x:=x) (ep:=ep) (is:=is) (ps:=us.map λp=>((p.1:Int),p.2)) (by subst hp;rw[List.map_map,List.map_map];rfl) hi hl6
 have e:(us.map λp=>(((p.1:Int),p.2):IV)).map iv=us.map nv:=by rw[List.map_map];rfl
 rw[e]at z
 exact z
section
section
variable{w:World}{hd:Option Value}{A:Around}{R:Result→Shared→Prop}{d:Drawn}{os:OsState}{hb:Heap}{m0:cM}{g:Array GenState}{fr:ah}
theorem oj{α:Type}{S:Option α→Nat→St}(F:fP w hd A R d os hb m0)(o:Option α)(ee n pl:Nat)(a0:α)(k:Nat)(e:go (ag w hd) n pl (S none ee)=go (ag w hd) n pl (S (some a0) (ee+k)))(ok:∀a e,(go (ag w hd) n pl (S (some a) e)).Y=true)(ab:∀a e,(go (ag w hd) n pl (S (some a) e)).A=(go (ag w hd) n pl (S (some a) e)).B)(h:∀a e,Gd (aG w A R d os hb m0 g fr) (go (ag w hd) n pl (S (some a) e)).S):Gd (aG w A R d os hb m0 g fr) (S o ee):=by
 cases o with
 |none =>
  have z:=h a0 (ee+k)
  rw[←e]at z
  exact eI (F g fr) n pl (by rw[e];exact ok _ _) (by rw[e];exact ab _ _) z
 |some a=>exact eI (F g fr) n pl (ok a ee) (ab a ee) (h a ee)
end
end
section
noncomputable def yA(cs:List UInt8)(wd:Nat):Nat→Nat→List UInt8→List UInt8
 |0,_,bs=>bs
 |m+1,i,bs=>yA cs wd m (i+wd) (vV cs i wd wd 0 bs)
theorem nD(cs:List UInt8)(i wd:Nat):∀(m j:Nat)(bs:List UInt8),(vV cs i wd m j bs).length=bs.length
 |0,_,_=>rfl
 |m+1,j,bs=>by rw[vV,nD,List.length_set]
theorem rx(cs:List UInt8)(wd:Nat):∀(m i:Nat)(bs:List UInt8),(yA cs wd m i bs).length=bs.length
 |0,_,_=>rfl
 |m+1,i,bs=>by rw[yA,rx,nD]
structure Aq where
 q:Tok
 z:Value
 o:Option (Tok×Value)
noncomputable abbrev xI(P:Params):Option Aq→List DictEntry
 |none=>[]
 |some p=>de P (u [105]) p.q p.z::vC P p.o
noncomputable abbrev BZ(P:Params)(q1 q2 q3 t1 t2 a wd:Nat)(cs:List UInt8)(o:Option Aq)(ee:Nat):Obj:=e7 ([de P (u [100,97,116,97]) q1 (.bytes ⟨cs⟩ t1),de P Ci q2 (.int (wd:Nat) t2),de P At q3 (.ref (a+937))]++xI P o) ee
noncomputable abbrev xH(P:Params)(y lo:Nat):Code:=cF (br (aE (aj 4)) 1) (.ref (y+937)) (bH 51 (DE P) lo)
structure EA where
 o:Option Aq
 ee:Nat
 k:Nat
section
variable{w:World}{a y lo q1 q2 q3 t1 t2 wd:Nat}{cs:List UInt8}
theorem vF(hc:cs.length≤1000)(hw:wd≤1000):∀(m i:Nat)(bs:List UInt8)(o:Option Aq)(ee:Nat),i+m*wd≤cs.length→0<wd→bs.length=cs.length→
  Spec w 2 none (xH w.params y lo) [(y+937,bP (i:Nat) (m:Nat) (wd:Nat)),(lo+937,BZ w.params q1 q2 q3 t1 t2 a wd cs o ee),(a+937,c8 bs 0)]
   (X:=EA) (λ_ r=>True) (λ_=>.ok .next) (λr=>[(y+937,bP (r.k:Nat) (0:Nat) (wd:Nat)),(lo+937,BZ w.params q1 q2 q3 t1 t2 a wd cs r.o r.ee),(a+937,c8 (yA cs wd m i bs) 0)]):=by
 intro m
 induction m with
 |zero =>
  intro i bs o ee hd h0 hl
  refine ak λA R d os hb m0 g tk b Z F E=>?_
  exact fx F E 15 5385752641 [0,1,2] ⟨o,ee,i⟩ _ [] [] (FL _) (FK _).symm trivial
 |succ m ih =>
  intro i bs o ee hd h0 hl
  have hmul:(m+1)*wd=m*wd+wd:=Nat.succ_mul m wd
  have hi:i+wd≤cs.length:=by lia
  have J:=λ(o:Option Aq)(ee:Nat)=>ih (i+wd) (vV cs i wd wd 0 bs) o ee (by lia) h0 (by rw[nD];exact hl)
  have hs:=gj (m:=wd) (wd:=1) (n:=wd) (Nat.mul_one _).symm Nat.one_pos hw (by lia)
  clear ih
  refine ak λA R d os hb m0 g tk b Z F E=>?_
  refine cx (L':=0) (hd':=none) F Z 2 1 (cy (y:=y) (i:=i) (m:=m) (st:=wd)) [0] λt m1 kk1 g1 _=>?_
  show Gd _ _
  apply oj F o ee 36 0xfc4104104102000082 ⟨kk1,.none,none⟩ 1
  ·kernel_rfl
  ·intro _ _;kernel_rfl
  ·intro _ _;kernel_rfl
  rintro⟨q4,z4,o⟩ ee
  refine cx (post:=λnn=>[(m1+937,fC 0 (wd:Nat) 1 (kk1+1) t2 (kk1+2))]++[(nn+937,bP (0:Nat) (wd:Nat) (1:Nat))]) (L':=0) (hd':=none) F Z 0 0 (dY (r:=m1) (a:=0) (b:=(wd:Nat)) (c:=1) (n:=(wd:Nat)) hs.1 hs.2) [3] λnn m2 kk2 g2 _=>?_
  intro sS
  refine cx (L':=1) (hd':=none) F Z 1 5 (xJ (y:=nn) (lo:=lo) (q1:=q1) (q2:=q2) (q3:=q3) (q4:=q4) (t1:=t1) (t2:=t2) (t3:=t) (a:=a) (i:=i) (wd:=wd) (cs:=cs) hi hc wd 0 bs o ee (by lia) hl) [4,1,2] λ(r:Cx)m3 kk3 g3 _=>?_
  intro sS
  exact dc F E Z 0 0 (J (some ⟨q4,.int (i:Nat) t,r.o⟩) r.ee) [0,1,2] (λ_ _ _ h=>h)
end
end
section
noncomputable def Ah:Code→Bool
 |.builtin id _=>id=="claim.caller"
 |_=>true
noncomputable def yH(l:List (Code×Pos)):Prop:=∀x∈l,Ah x.1=true
noncomputable def Bl:Kont→List (Code×Pos)→Prop
 |.base,l=>yH l
 |.ret c _ _ κ,l=>∃p l',l=(c,p)::l'∧Bl κ l'
 |.gen ..,_=>False
 |.genS ..,_=>False
noncomputable def cP(V:XV)(κ:Kont)(e:Result→Shared→Prop)(c:Code)(s:Shared):Prop:=
 ∀Γ p,Γ.code=c→Γ.Below (aroundOf V true κ)→Bl κ Γ.below→wpCode (model V.prog V.w) Γ e p s
noncomputable def Bd(V:XV)(κ:Kont)(e:Result→Shared→Prop):PySem.Fin→Shared→Prop
 |.done f,s'=>e (.ok f) s'
 |.again c',s'=>c'.quiet=true∧cP V κ e c' s'
noncomputable def mP(V:XV)(κ:Kont)(e:Result→Shared→Prop)(c:Code)(t:Sem PySem.Fin)(s:Shared):Prop:=
 ∀Γ p,Γ.code=c→Γ.Below (aroundOf V true κ)→Bl κ Γ.below→Sem.wp (model V.prog V.w) Γ t (λfin _ s'=>Bd V κ e fin s') (λx _ s'=>e (.error x) s') p s
noncomputable def i7(V:XV):Kont→Result→Shared→Prop
 |.base=>V.R₀
 |.ret c _ k κ=>λr s=>mP V κ (i7 V κ) c (k r) s
 |.gen ..=>λ_ _=>False
 |.genS ..=>λ_ _=>False
section
variable{V:XV}{κ:Kont}{e:Result→Shared→Prop}{c:Code}{s:Shared}
theorem cW{β:Type}{m:Sem β}{f:β→Sem PySem.Fin}(h:wpAny (model V.prog V.w) ((aroundOf V true κ).under c) m (λa s'=>mP V κ e c (f a) s') (λx s'=>e (.error x) s') s):mP V κ e c (m>>=f) s:=λΓ p hc hΓ hb=>by
 rw[Sem.wp_bind']
 exact Sem.wp_mono _ Γ m (λa p' s' h'=>h' Γ p' hc hΓ hb) (λ_ _ _ h'=>h') p s (h Γ p (hc▸hΓ.in))
theorem jS{c':Code}(h:mP V κ e c' (denote table c') s):cP V κ e c' s:=λΓ p hc hΓ hb=>by
 rw[wpCode_iff_wp,hc]
 refine Sem.wp_mono _ Γ _ (λfin p' s' h'=>?_) (λ_ _ _ h'=>h') p s (h Γ p hc hΓ hb)
 cases fin with
 |done f=>exact h'
 |again c''=>exact⟨h'.1,h'.2 (Γ.goto c'') p' rfl (hΓ.goto c'') hb⟩
theorem qR{c':Code}{hd:Option Value}{g:Bool}{l:List Value}{k:Result→Sem PySem.Fin}(hnb:hd≠some byPass)(x:cP V (.ret c hd k κ) (i7 V (.ret c hd k κ)) c' s)(he:i7 V κ=e):mP V κ e c (.call c' hd g l k) s:=λΓ p hc hΓ hb=>by
 subst he
 exact wpCode_mono (λ_ _ q=>q Γ p hc hΓ hb) (x _ p rfl ((hc▸hΓ.in:Γ.In ((aroundOf V true κ).under c)).enter c' hd p hnb) ⟨p,Γ.below,by rw[←hc];rfl,hb⟩)
theorem uH{e₀:Result→Shared→Prop}{t:Sem PySem.Fin}(hm:∀r s,e₀ r s→e r s)
  (h:wpOwn (model V.prog V.w) (aroundOf V true κ) c t (postC V.prog V.w (aroundOf V true κ) e₀) (postE e₀) s):mP V κ e c t s:=λΓ p hc hΓ hb=>by
 refine Sem.wp_mono _ Γ _ (λfin p' s' h'=>?_) (λ_ _ _ h'=>hm _ _ h') p s (h Γ p hc hΓ)
 cases fin with
 |done f=>exact hm _ _ h'
 |again c''=>exact⟨h'.1,λΓ' p'' hc' hΓ' _=>wpCode_mono (λr s=>hm r s) (h'.2 Γ' p'' hc' hΓ')⟩
end
theorem tF(V:XV):∀(κ:Kont)(r:Result)(s:Shared),endOf V κ r s→i7 V κ r s
 |.base,_,_,h=>h
 |.ret c hd k κ,r,s,h=>uH (tF V κ) h
 |.gen ..,_,_,h=>h.elim
 |.genS ..,_,_,h=>h.elim
structure iV(G:GC)(s:St):Prop where
 run:∀h,aI G.kt G.hb G.m0 h (s.os++G.fr) s.nx→mP G.V s.κ (i7 G.V s.κ) s.c s.t ⟨h,G.g,G.V.d,s.tk,G.V.os⟩
theorem iN{G:GC}{s:St}(h:Gd G s):iV G s:=⟨λhp H=>uH (tF G.V s.κ) (h.run hp H)⟩
noncomputable def sY(G:GC)(o:nL):Prop:=o.ok=true∧o.as=o.bs∧iV G o.st
noncomputable def Ct(G:GC)(ih:rK):Prop:=∀pl c κ t os nx tk as bs,as.length=bs.length→sY G (ih pl c κ t os nx tk as bs)→as=bs∧iV G ⟨c,κ,t,os,nx,tk⟩
theorem bg{G:GC}{pl c κ t os nx tk as bs}(h:sY G (bJ pl c κ t os nx tk as bs)):False:=by
 have:=h.1
 cases this
section
variable{m:MC}{G:GC}{ih:rK}(F:nN m G)(IH:Ct G ih)
include IH in
theorem ra(r:Result){pl c κ t os nx tk as bs}(hl:as.length=bs.length)(ht:t=leafOf r)(H:sY G (xk m ih r pl c κ t os nx tk as bs)):as=bs∧iV G ⟨c,κ,t,os,nx,tk⟩:=by
 cases κ with
 |base=>exact(bg (pl:=pl) H).elim
 |gen=>exact(bg (pl:=pl) H).elim
 |genS=>exact(bg (pl:=pl) H).elim
 |ret c₁ hd k κ₁ =>
  obtain⟨e,g⟩:=IH pl c₁ κ₁ (k r) os nx tk as bs hl H
  refine⟨e,⟨λh R=>?_⟩⟩
  have z:i7 G.V (.ret c₁ hd k κ₁) r ⟨h,G.g,G.V.d,tk,G.V.os⟩:=g.run h R
  cases r with
  |ok f=>subst ht;exactλ_ _ _ _ _=>z
  |error e=>subst ht;exactλ_ _ _ _ _=>z
include F IH in
theorem vx:Ct G (cJ m ih):=by
 intro pl c κ t os nx tk as bs hl H
 cases t with
 |pure f =>
  cases f with
  |done fl=>exact ra (m:=m) IH (.ok fl) hl rfl H
  |again c' =>
   cases q:m.q c' with
   |false=>(delta cJ at H;dsimp only at H;rw[q]at H;dsimp only at H);exact(bg (pl:=pl) H).elim
   |true =>
    (delta cJ at H;dsimp only at H;rw[q]at H;dsimp only at H)
    obtain⟨e,g⟩:=IH _ _ _ _ _ _ _ _ _ hl H
    refine⟨e,⟨λh R=>?_⟩⟩
    have z':mP G.V κ (i7 G.V κ) c' (m.D c') ⟨h,G.g,G.V.d,tk,G.V.os⟩:=g.run h R
    rw[F.D]at z'
    exactλ_ _ _ _ _=>⟨F.q _ q,jS z'⟩
 |raise e=>exact ra (m:=m) IH (.error e) hl rfl H
 |rule tag k =>
  obtain⟨e,g⟩:=IH _ _ _ _ _ _ _ _ _ hl H
  exact⟨e,⟨λh R Γ p hc hΓ hb=>g.run h R Γ p hc hΓ hb⟩⟩
 |«at» q k =>
  obtain⟨e,g⟩:=IH _ _ _ _ _ _ _ _ _ hl H
  exact⟨e,⟨λh R Γ p hc hΓ hb=>g.run h R Γ q hc hΓ hb⟩⟩
 |point l k =>
  obtain⟨e,g⟩:=IH _ _ _ _ _ _ _ _ _ hl H
  exact⟨e,⟨λh R Γ p hc hΓ hb=>g.run h R Γ p hc hΓ hb⟩⟩
 |ask k =>
  have out:∀t',k m.S=t'→iV G ⟨c,κ,t',os,nx,tk⟩→iV G ⟨c,κ,.ask k,os,nx,tk⟩:=λt' e g=>⟨λh R Γ p hc hΓ hb=>(by
   have z:=g.run h R Γ p hc hΓ hb
   rw[←e,F.S]at z
   exact z)⟩
  (delta cJ at H;dsimp only at H)
  split at H
  ·obtain⟨e,g⟩:=IH _ _ _ _ _ _ _ _ _ (by simp[hl]) H
   injection e with e1 e2
   injection e1 with e1
   exact⟨e2,out _ (F.S12.elim (λq=>by rw[q]) λq=>by rw[q,e1]) g⟩
  ·split at H
   ·delta yZ at H
    split at H
    ·rename_i a q k1 h1
     split at H
     ·rename_i a' q' k2 h2
      split at H
      ·split at H
       ·rename_i o eo
        obtain⟨e,g⟩:=IH _ _ _ _ _ _ _ _ _ (by simp[hl]) H
        injection e with e1 e2
        injection e1 with e1
        injection e2 with e2 e3
        injection e2 with e2
        subst e2
        refine⟨e3,F.S12.elim (λz=>out _ (by rw[z,h1]) ⟨λh R=>?_⟩) λz=>out _ (by rw[z,h2]) ⟨λh R=>?_⟩⟩
        ·exact cW (m:=loadPart a q) (f:=k1) (wpAny_loadPart (R.st a o (F.kt▸eo)) (g.run h R))
        ·exact cW (m:=loadPart a q') (f:=k2) (wpAny_loadPart (R.st a o (F.kt▸eo)) (by rw[←e1];exact g.run h R))
       ·exact(bg (pl:=pl) H).elim
      ·split at H
       ·rename_i j _ p eq
        obtain⟨e,g⟩:=IH _ _ _ _ _ _ _ _ _ (by simp[hl]) H
        injection e with e1 e2
        injection e1 with e1
        injection e2 with e2 e3
        injection e2 with e2
        subst e2
        injection e3 with e3 e4
        injection e3 with e3
        have own:∀h,aI G.kt G.hb G.m0 h (os++G.fr) nx→h.get? a=some p.2:=λh R=>by
         rw[e3]
         exact R.own p (FN _ (List.mem_of_getElem? (by rw[←bO];exact eq)))
        refine⟨e4,F.S12.elim (λz=>out _ (by rw[z,h1]) ⟨λh R=>?_⟩) λz=>out _ (by rw[z,h2]) ⟨λh R=>?_⟩⟩
        ·exact cW (m:=loadPart a q) (f:=k1) (wpAny_loadPart (own h R) (g.run h R))
        ·exact cW (m:=loadPart a q') (f:=k2) (wpAny_loadPart (own h R) (by rw[←e1];exact g.run h R))
       ·exact(bg (pl:=pl) H).elim
     ·exact(bg (pl:=pl) H).elim
    ·exact(bg (pl:=pl) H).elim
   ·obtain⟨e,g⟩:=IH _ _ _ _ _ _ _ _ _ hl H
    exact⟨e,out _ rfl g⟩
 |load a p k =>
  (delta cJ at H;dsimp only at H)
  split at H
  ·split at H
   ·rename_i o eo
    obtain⟨e,g⟩:=IH _ _ _ _ _ _ _ _ _ hl H
    exact⟨e,⟨λh R=>cW (m:=loadPart a p) (f:=k) (wpAny_loadPart (R.st a o (F.kt▸eo)) (g.run h R))⟩⟩
   ·exact(bg (pl:=pl) H).elim
  ·split at H
   ·rename_i j _ q eq
    obtain⟨e,g⟩:=IH _ _ _ _ _ _ _ _ _ (by simp[hl]) H
    injection e with e1 e2
    injection e1 with e1
    refine⟨e2,⟨λh R=>cW (m:=loadPart a p) (f:=k) (wpAny_loadPart (o:=q.2) ?_ (g.run h R))⟩⟩
    rw[e1]
    exact R.own q (FN _ (List.mem_of_getElem? (by rw[←bO];exact eq)))
   ·exact(bg (pl:=pl) H).elim
 |loadIfAlive a k =>
  (delta cJ at H;dsimp only at H)
  split at H
  ·split at H
   ·rename_i o eo
    obtain⟨e,g⟩:=IH _ _ _ _ _ _ _ _ _ hl H
    refine⟨e,⟨λh R Γ p hc hΓ hb=>?_⟩⟩
    show Sem.wp _ _ (k (h.get? a)) _ _ _ _
    rw[R.st a o (F.kt▸eo)]
    exact g.run h R Γ p hc hΓ hb
   ·exact(bg (pl:=pl) H).elim
  ·split at H
   ·rename_i j _ q eq
    obtain⟨e,g⟩:=IH _ _ _ _ _ _ _ _ _ (by simp[hl]) H
    injection e with e1 e2
    injection e1 with e1
    refine⟨e2,⟨λh R Γ p hc hΓ hb=>?_⟩⟩
    show Sem.wp _ _ (k (h.get? a)) _ _ _ _
    rw[e1,R.own q (FN _ (List.mem_of_getElem? (by rw[←bO];exact eq)))]
    exact g.run h R Γ p hc hΓ hb
   ·exact(bg (pl:=pl) H).elim
 |update a p f k =>
  (delta cJ at H;dsimp only at H)
  split at H
  ·exact(bg (pl:=pl) H).elim
  ·split at H
   ·rename_i j _ q eq
    split at H
    ·exact(bg (pl:=pl) H).elim
    ·rename_i hf
     obtain⟨e,g⟩:=IH _ _ _ _ _ _ _ _ _ (by simp[hl]) H
     injection e with e1 e2
     injection e1 with e1
     rw[bO]at eq
     obtain⟨b,o⟩:=q
     dsimp only at e1 hf g
     subst e1
     refine⟨e2,⟨λh R=>?_⟩⟩
     have ho:=R.own _ (FN _ (List.mem_of_getElem? eq))
     have z:=g.run (h.update a f) (by rw[eX _ _ _ eq];exact R.updateF eq hf)
     exact cW (m:=updatePart a p f) (f:=k) (wpAny_updatePart ho z)
   ·exact(bg (pl:=pl) H).elim
 |alloc o k =>
  (delta cJ at H;dsimp only at H)
  split at H
  ·exact(bg (pl:=pl) H).elim
  ·rename_i hf
   obtain⟨e,g⟩:=IH _ _ _ _ _ _ _ _ _ hl H
   refine⟨e,⟨λh R=>?_⟩⟩
   have z:=g.run (h.push o) (R.allocF hf)
   have es:=R.size
   exact cW (m:=alloc o) (f:=k) (wpAny_alloc (by dsimp only;rw[es];exact z))
 |fresh k =>
  obtain⟨e,g⟩:=IH _ _ _ _ _ _ _ _ _ hl H
  exact⟨e,⟨λh R Γ p hc hΓ hb=>g.run h R Γ p hc hΓ hb⟩⟩
 |handled own k =>
  cases own with
  |true=>exact(bg (pl:=pl) H).elim
  |false =>
   obtain⟨e,g⟩:=IH _ _ _ _ _ _ _ _ _ hl H
   refine⟨e,⟨λh R=>cW (m:=handled) (f:=k) (wpAny_handled ?_)⟩⟩
   have z:=g.run h R
   have e2:((aroundOf G.V true κ).under c).handled=aB m.h0 κ:=by
    rw[F.h0];exact bv G.V κ
   rw[e2]
   exact z
 |call c' hd gd l k =>
  (delta cJ at H;dsimp only at H)
  split at H
  ·rename_i q
   obtain⟨e,g⟩:=IH _ _ _ _ _ _ _ _ _ hl H
   refine⟨e,⟨λh R=>?_⟩⟩
   have hnb:hd≠some byPass:=by
    intro e
    subst e
    simp[okMark]at q
   have z':mP G.V (.ret c hd k κ) (i7 G.V (.ret c hd k κ)) c' (m.D c') ⟨h,G.g,G.V.d,tk,G.V.os⟩:=g.run h R
   rw[F.D]at z'
   exact qR hnb (jS z') rfl
  ·exact(bg (pl:=pl) H).elim
 |_=>exact(bg (pl:=pl) H).elim
end
theorem rf{m:MC}{G:GC}(F:nN m G):∀n,Ct G (zH m n)
 |0=>λ_ _ _ _ _ _ _ _ _ _ H=>⟨H.2.1,H.2.2⟩
 |n+1=>vx F (rf F n)
theorem wa{m:MC}{G:GC}(F:nN m G)(n pl:Nat){s:St}(ok:(go m n pl s).Y=true)(ab:(go m n pl s).A=(go m n pl s).B)(h:iV G (go m n pl s).S):iV G s:=by
 obtain⟨c,κ,t,os,nx,tk⟩:=s
 exact(rf F n pl c κ t os nx tk [] [] rfl ⟨ok,ab,h⟩).2
theorem vk{G:GC}{s:St}(m:Sem Unit)(T:Sem PySem.Fin)(hs:s.T=m.bind λ_=>T)
  (hm:∀h,aI G.kt G.hb G.m0 h (s.O++G.fr) s.N→∀(Q:Unit→Shared→Prop)(E:Value→Shared→Prop),Q () ⟨h,G.g,G.V.d,s.J,G.V.os⟩→
   wpAny (model G.V.prog G.V.w) ((aroundOf G.V true s.K).under s.C) m Q E ⟨h,G.g,G.V.d,s.J,G.V.os⟩)
  (h:iV G (s.setT T)):iV G s:=⟨λhp R=>by
 obtain⟨c,κ,t,os,nx,tk⟩:=s
 have z:=h.run hp R
 show mP _ _ _ _ t _
 rw[show t=_ from hs]
 exact cW (m:=m) (f:=λ_=>T) (hm hp R _ _ z)⟩
noncomputable def jp(w:World)(L:Nat)(hd:Option Value)(c:Code)(pre:ah){X:Type}(C:Nat→X→Prop)(r:X→Result)(post:X→ah):Prop:=
 ∀(A:Around)(h:Heap)(g:GB)(d:Drawn)(tk:Nat)(os:OsState),Rm A L hd→cb w h→k8 h pre→(∀p∈pre,sQ w p.1)→(pre.map (·.1)).Nodup→
  ∀Γ p,Γ.code=c→Γ.Below A→yH Γ.below→wpCode (model pw w) Γ (bj d os h h.objs.size (md (pre.map (·.1))) C r post) p ⟨h,g,d,tk,os⟩
noncomputable def s6(w:World)(L:Nat)(hd:Option Value)(c₁:Code)(κ:Kont)(c:Code)(pre:ah){X:Type}(C:Nat→X→Prop)(r:X→Result)(post:X→ah):Prop:=
 ∀(A:Around)(h:Heap)(g:GB)(d:Drawn)(tk:Nat)(os:OsState),Rm A L hd→cb w h→k8 h pre→(∀p∈pre,sQ w p.1)→(pre.map (·.1)).Nodup→
  ∀Γ p,Γ.code=c→Γ.Below A→(∃p' l,Γ.below=(c₁,p')::l∧Bl κ l)→wpCode (model pw w) Γ (bj d os h h.objs.size (md (pre.map (·.1))) C r post) p ⟨h,g,d,tk,os⟩
noncomputable def oJ:Kont→Bool
 |.base=>true
 |.ret c _ _ κ=>Ah c&&oJ κ
 |.gen ..=>false
 |.genS ..=>false
theorem ul:∀{κ:Kont}{l:List (Code×Pos)},oJ κ=true→Bl κ l→yH l
 |.base,_,_,h=>h
 |.ret c _ _ κ,l,ok,h=>by
  obtain⟨p,l',rfl,h'⟩:=h
  have ok:(Ah c&&oJ κ)=true:=ok
  rw[Bool.and_eq_true]at ok
  intro x hx
  rcases FY.mp hx with rfl|hx
  ·exact ok.1
  ·exact ul ok.2 h' x hx
 |.gen ..,_,_,h=>h.elim
 |.genS ..,_,_,h=>h.elim
section
variable{w:World}{hd:Option Value}{A:Around}{R:Result→Shared→Prop}{d:Drawn}{os:OsState}{hb:Heap}{m0:cM}{fr:ah}{s:St}{L L':Nat}{c c₁:Code}{κ:Kont}
variable{X:Type}{C:Nat→X→Prop}{r:X→Result}
theorem Spec.toK{pre:ah}{post:X→ah}(S:Spec w L hd c pre C r post):s6 w L hd c₁ κ c pre C r post:=λA h g d tk os Z hst hpre hoff nd Γ p hc hΓ _=>S A h g d tk os Z hst hpre hoff nd Γ p hc hΓ
theorem jp.toK{pre:ah}{post:X→ah}(S:jp w L hd c pre C r post)(ok:(Ah c₁&&oJ κ)=true):s6 w L hd c₁ κ c pre C r post:=λA h g d tk os Z hst hpre hoff nd Γ p hc hΓ hb=>by
 obtain⟨p',l,e,hl⟩:=hb
 exact S A h g d tk os Z hst hpre hoff nd Γ p hc hΓ (ul (κ:=.ret c₁ none (λ_=>.raise .none) κ) ok ⟨p',l,e,hl⟩)
theorem nZ{g:GB}(Z:Rm A L hd){hd':Option Value}{preF:ah}{postF new:X→ah}
  (S:s6 w L' hd' s.C s.K c preF C r λx=>postF x++new x) (sel:List Nat) (hs:cg 0 sel=true) (hpm:∀x,(postF x).map (·.1)=preF.map (·.1)) (hl:pS L' L=true)
  (ic:dh s=true) (ec:ce s.T=c) (hh:aB hd s.K=hd') (hsel:bu s.O sel=preF.map some)
  (h:∀(x:X)(m tk:Nat)(g':GB),C s.N x→iV (aG w A R d os hb m0 g' fr) (s.next (λt=>cu t (r x)) (λos=>bp os sel (postF x)++new x) (m+937) tk)):iV (aG w A R d os hb m0 g fr) s:=by
 obtain⟨ic,eh,ed,eu⟩:=dK ic
 have ic:cG s.t=true:=ic
 have ec:ce s.t=c:=ec
 have eh:b9 s.t=none:=eh
 have hsel:bu s.os sel=preF.map some:=hsel
 have hh:aB hd s.κ=hd':=hh
 have ed:n7 s.κ+wt s.c≤40:=ed
 have eu:sP s.κ+un s.c≤100:=eu
 have h:∀(x:X)(m tk:Nat)(g':GB),C s.nx x→iV (aG w A R d os hb m0 g' fr) ⟨s.c,s.κ,cu s.t (r x),bp s.os sel (postF x)++new x,m+937,tk⟩:=h
 refine⟨λhp H=>?_⟩
 have H:aI (bo w) hb m0 hp (s.os++fr) s.nx:=H
 obtain⟨gd,l,sh⟩:=ci ic
 show mP _ _ _ _ s.t _
 rw[sh,ec,eh]
 have hdep:=eK (bF w A R d os) s.κ
 have hun:=gn (bF w A R d os) s.κ
 have e1:s.c.weight=wt s.c:=by rw[fJ]
 have e2:s.c.cUnits=un s.c:=by rw[gO]
 have e3:(bF w A R d os).A₀.depth=A.depth:=rfl
 have e4:(bF w A R d os).A₀.units=A.units:=rfl
 have hD:=lS hl Z.d
 have hU:=lU hl Z.u
 have hhd:((aroundOf (bF w A R d os) true s.κ).under s.c|>.mark none).handled=hd':=by
  show(none:Option Value).or (aroundOf (bF w A R d os) true s.κ).handled=hd'
  rw[bv]
  show aB A.handled s.κ=hd'
  rw[Z.h,hh]
 have nd:=jv (preR:=[]) H hs hsel (FL fr)
 rw[FK]at nd
 have hmem:∀p∈preF,p∈s.os++fr:=λp hp'=>FN _ (gg hsel p hp')
 have z:=S (((aroundOf (bF w A R d os) true s.κ).under s.c).mark none) hp g d s.tk os ⟨hhd,
  (by show(aroundOf (bF w A R d os) true s.κ).depth+s.c.weight≤DL L';lia),(by show(aroundOf (bF w A R d os) true s.κ).units+s.c.cUnits≤UL L';lia)⟩
  H.st (λp hpm=>H.own p (hmem p hpm)) (λp hpm=>H.off p (hmem p hpm)) nd
 refine qR (by intro e;cases e) (λΓ p hc hΓ hb'=>wpCode_mono (λr' s' hr=>?_) (z Γ p hc hΓ hb')) rfl
 obtain⟨x,h',tk',g',rfl,hC,hpost,hnl,hnn,hk⟩:=hr
 have hsz:hp.objs.size=s.nx:=H.size
 have hbg:937≤hp.objs.size:=aV w hp H.st
 obtain⟨m,hm⟩:∃m,h'.objs.size=m+937:=⟨h'.objs.size-937,by have:=hk.2;lia⟩
 have A':=j1 (preR:=[]) (postR:=[]) (preF:=preF) H hsel (FL fr) (by rw[FK];exact nd) (hpm x) (by rw[FK];exact hpost) (by rw[FK,FK];exact hnl) (by rw[FK];exact hnn) (by rw[FK];exact hk)
 rw[hm]at A'
 exact(h x m tk' g' (hsz▸hC)).run h' A'
theorem Ac{g:GB}{pre:ah}{post:X→ah}(F:fP w hd A R d os hb m0)(Z:Rm A L hd)(n pl:Nat){hd':Option Value}(S:Spec w L' hd' c pre C r post)(sel:List Nat)(h:∀(x:X)(m tk:Nat)(g':GB),C (go (ag w hd) n pl s).S.N x→let sS:=((go (ag w hd) n pl s).S.next (λt=>cu t (r x)) (λos=>pX os sel (post x)) (m+937) tk);iV (aG w A R d os hb m0 g' fr) sS)(hpm:∀x,((post x).take sel.length).map (·.1)=pre.map (·.1):=by exactλ_=>rfl)(ok:((go (ag w hd) n pl s).Y&&(cg 0 sel&&(pS L' L&&dh (go (ag w hd) n pl s).S)))=true:=by kernel_rfl)(ab:(go (ag w hd) n pl s).A=(go (ag w hd) n pl s).B:=by kernel_rfl)(ec:ce (go (ag w hd) n pl s).S.T=c:=by kernel_rfl)(hh:aB hd (go (ag w hd) n pl s).S.K=hd':=by kernel_rfl)(hsel:bu (go (ag w hd) n pl s).S.O sel=pre.map some:=by kernel_rfl):iV (aG w A R d os hb m0 g fr) s:=by
 simp only[Bool.and_eq_true]at ok
 exact wa (F g fr) n pl ok.1 ab (nZ (postF:=λx=>(post x).take sel.length) (new:=λx=>(post x).drop sel.length) Z (by simp only[List.take_append_drop];exact S.toK) sel ok.2.1 hpm ok.2.2.1 ok.2.2.2 ec hh hsel λx m tk g' hC=>by rw[←nr];exact h x m tk g' hC)
theorem x9{g:GB}{pre:ah}{post:X→ah}(F:fP w hd A R d os hb m0)(Z:Rm A L hd)(n pl:Nat){hd':Option Value}(S:jp w L' hd' c pre C r post)(sel:List Nat)(h:∀(x:X)(m tk:Nat)(g':GB),C (go (ag w hd) n pl s).S.N x→let sS:=((go (ag w hd) n pl s).S.next (λt=>cu t (r x)) (λos=>pX os sel (post x)) (m+937) tk);iV (aG w A R d os hb m0 g' fr) sS)(hpm:∀x,((post x).take sel.length).map (·.1)=pre.map (·.1):=by exactλ_=>rfl)(ok:((go (ag w hd) n pl s).Y&&(cg 0 sel&&(pS L' L&&dh (go (ag w hd) n pl s).S)))=true:=by kernel_rfl)(ab:(go (ag w hd) n pl s).A=(go (ag w hd) n pl s).B:=by kernel_rfl)(ec:ce (go (ag w hd) n pl s).S.T=c:=by kernel_rfl)(hh:aB hd (go (ag w hd) n pl s).S.K=hd':=by kernel_rfl)(hsel:bu (go (ag w hd) n pl s).S.O sel=pre.map some:=by kernel_rfl)(hlow:(Ah (go (ag w hd) n pl s).S.C&&oJ (go (ag w hd) n pl s).S.K)=true:=by kernel_rfl):iV (aG w A R d os hb m0 g fr) s:=by
 simp only[Bool.and_eq_true]at ok
 exact wa (F g fr) n pl ok.1 ab (nZ (postF:=λx=>(post x).take sel.length) (new:=λx=>(post x).drop sel.length) Z (by simp only[List.take_append_drop];exact S.toK hlow) sel ok.2.1 hpm ok.2.2.1 ok.2.2.2 ec hh hsel λx m tk g' hC=>by rw[←nr];exact h x m tk g' hC)
theorem rT{g:Array GenState}(hs:s.T=PySem.W.R.bindR dy λ_=>bW w.params s.T)(hd:Nat.ble (n7 s.K+wt s.C) 40=true)(hk:A.depth≤940)
  (h:iV (aG w A R d os hb m0 g fr) (s.mapT (bW w.params))):iV (aG w A R d os hb m0 g fr) s:=
 vk dy _ (by rw[PySem.W.R.bindR_eq];exact hs) (λhp H Q E q=>by
  rw[←gS]
  refine wpAny_enterFrame (fz H.st) ?_ q
  have:=eK (bF w A R d os) s.K
  show(aroundOf (bF w A R d os) true s.K).depth+s.C.weight<recursionLimit
  have e:s.C.weight=wt s.C:=by rw[fJ]
  have e2:(bF w A R d os).A₀.depth=A.depth:=rfl
  have e3:=Nat.le_of_ble_eq_true hd
  have e4:recursionLimit=1000:=rfl
  lia) h
theorem E8{g:GB}(F:fP w hd A R d os hb m0)(Z:Rm A L hd)(n pl:Nat)(h:let sS:=((go (ag w hd) n pl s).S.mapT (bW w.params));iV (aG w A R d os hb m0 g fr) sS)(ok:((go (ag w hd) n pl s).Y&&Nat.ble (n7 (go (ag w hd) n pl s).S.K+wt (go (ag w hd) n pl s).S.C) 40)=true:=by kernel_rfl)(ab:(go (ag w hd) n pl s).A=(go (ag w hd) n pl s).B:=by kernel_rfl)(hs:(go (ag w hd) n pl s).S.T=PySem.W.R.bindR dy λ_=>bW w.params (go (ag w hd) n pl s).S.T:=by kernel_rfl):iV (aG w A R d os hb m0 g fr) s:=by
 rw[Bool.and_eq_true]at ok
 exact wa (F g fr) n pl ok.1 ab (rT hs ok.2 Z.deep h)
end
theorem kS{w:World}{L:Nat}{hd:Option Value}{c:Code}{pre:ah}{X:Type}{C:Nat→X→Prop}{r:X→Result}{post:X→ah}
  (h:∀(A:Around)(R:Result→Shared→Prop)(d:Drawn)(os:OsState)(hb:Heap)(m0:cM)(g:GB)(tk b:Nat),Rm A L hd→fP w hd A R d os hb m0→jF d os hb (b+937) m0 C r post R→
   iV (aG w A R d os hb m0 g []) ⟨c,.base,Dq c,pre,b+937,tk⟩):jp w L hd c pre C r post:=by
 intro A hb g d tk os Z hst hpre hoff nd Γ p hc hΓ hlow
 obtain⟨b,hbe⟩:∃b,hb.objs.size=b+937:=⟨hb.objs.size-937,by have:=aV w hb hst;omega⟩
 have z:=(h A (bj d os hb hb.objs.size (md (pre.map (·.1))) C r post) d os hb (md (pre.map (·.1))) g tk b Z (λg fr'=>fits w A _ d os hb _ g fr' hd Z.h) ⟨hbe,λ_ _ z=>by rw[hbe];exact z⟩).run hb
  (by show aI (bo w) hb (md (pre.map (·.1))) hb (pre++[]) (b+937);rw[FK];exact⟨hbe,hst,hpre,hoff,nd,λp hp=>.inl (FP hp),λb o e _=>a6 e,hbe▸Nat.le_refl _⟩)
 have z':mP (bF w A (bj d os hb hb.objs.size (md (pre.map (·.1))) C r post) d os) .base (bj d os hb hb.objs.size (md (pre.map (·.1))) C r post) c (Dq c) ⟨hb,g,d,tk,os⟩:=z
 rw[lw]at z'
 exact jS z' Γ p hc hΓ hlow
end
section
noncomputable def zX{α:Type}(M:Model)(Γ:PySem.Ctx)(t:Sem α)(Q:α→Shared→Prop)(E:Value→Shared→Prop)(s:Shared):Prop:=∀p,Sem.wp M Γ t (λa _ s'=>Q a s') (λe _ s'=>E e s') p s
section
variable{α β:Type}{M:Model}{Γ:PySem.Ctx}{E:Value→Shared→Prop}{s:Shared}
theorem a9{m:Sem α}{f:α→Sem β}{Q:β→Shared→Prop}(h:zX M Γ m (λa s'=>zX M Γ (f a) Q E s') E s):zX M Γ (m>>=f) Q E s:=λp=>by
 rw[Sem.wp_bind']
 exact Sem.wp_mono M Γ m (λa p' s' h'=>h' p') (λ_ _ _ h'=>h') p s (h p)
theorem b7{A:Around}{t:Sem α}{Q:α→Shared→Prop}(hΓ:Γ.In A)(h:wpAny M A t Q E s):zX M Γ t Q E s:=λp=>h Γ p hΓ
theorem c7{a:α}{Q:α→Shared→Prop}(h:Q a s):zX M Γ (pure a) Q E s:=λ_=>h
theorem oe{a:Addr}{rest:List Value}{kw kw':List (Str×Value)}{T:String}{rest':List Value}{p':Pos}{l:List (Code×Pos)}{Q:Bool→Shared→Prop}(hc:Γ.code=.builtin "bytearray.__init__" ⟨.ref a::rest,kw⟩)
  (hb:Γ.below=(.builtin "type.__call__" ⟨.type T::rest',kw'⟩,p')::l) (hl:yH l) (h:Q false s):zX M Γ (Builtin.Bytes.exported (.ref a)) Q E s:=λp=>by
 unfold Builtin.Bytes.exported
 have e:∀f:Code×Pos→Bool,f (.builtin "bytearray.__init__" ⟨.ref a::rest,kw⟩,p)=false→f (.builtin "type.__call__" ⟨.type T::rest',kw'⟩,p')=false→(∀x∈l,f x=false)→(((Γ.code,p)::Γ.below).any f)=false:=λf h1 h2 h3=>by
  rw[hc,hb,List.any_cons,List.any_cons,h1,h2,Bool.false_or,Bool.false_or]
  exact List.any_eq_false.mpr λx hx=>by rw[h3 x hx];exact Bool.false_ne_true
 show Q (((Γ.code,p)::Γ.below).any _) s
 rw[e _ ?_ ?_ ?_]
 ·exact h
 ·show(_&&_)=false
  rw[show(Builtin.Bytes.decodersThatHold.contains "bytearray.__init__")=false by decide +kernel]
  exact Bool.and_false _
 ·rfl
 ·intro x hx
  have ho:=hl x hx
  obtain⟨c,q⟩:=x
  cases c with
  |builtin id args =>
   have hid:id="claim.caller":=by simpa [Ah]using ho
   subst hid
   obtain⟨pos,kw⟩:=args
   cases pos with
   |nil=>rfl
   |cons v vs =>
    show(_&&_)=false
    rw[show(Builtin.Bytes.decodersThatHold.contains "claim.caller")=false by decide +kernel]
    exact Bool.and_false _
  |_=>rfl
end
end
theorem zE:typeLookup (.type "bytearray") (Str.ofString "__release_buffer__")=pure (some (.builtin "bytearray.__release_buffer__")):=by
 rw[typeLookup_type,builtinLookup_eq_fast];kernel_rfl
theorem po{w:World}{A:Around}{Γ:PySem.Ctx}{Q:PySem.Fin→Shared→Prop}{E:Value→Shared→Prop}{s:Shared}{a:Addr}{i:Int}{n:Nat}{t:Tok}{p':Pos}{l:List (Code×Pos)}{T:String}{rest':List Value}{kw':List (Str×Value)}
  (hΓ:Γ.In A) (hc:Γ.code=.builtin "bytearray.__init__" ⟨[.ref a,.int i t],[]⟩) (hb:Γ.below=(.builtin "type.__call__" ⟨.type T::rest',kw'⟩,p')::l) (hl:yH l)
  (hi:i=(n:Int)) (hn0:0<n) (hn:n≤1000) (ho:s.heap.get? a=some (c8 [] 0))
  (h:Q (.done (.ret .none)) {s with heap:=(s.heap.update a (Obj.mapBytearray λ_=>#[])).update a (Obj.mapBytearray λ_=>Array.replicate i.toNat 0)}):zX (model pw w) Γ (Builtin.«bytearray.__init__» ⟨[.ref a,.int i t],[]⟩) Q E s:=by
 unfold Builtin.«bytearray.__init__»
 dsimp only
 refine a9 ?_
 unfold Builtin.Bytes.ownRelease
 refine a9 ?_
 unfold Builtin.Bytes.slotIsOwn
 refine a9 (b7 hΓ (wpAny_specialOf ⟨_,ho,rfl⟩ zE ?_))
 dsimp only
 rw[show("bytearray.__release_buffer__".endsWith ("."++"__release_buffer__"))=true by decide +kernel]
 rw[show("bytearray.__release_buffer__".dropRight ("__release_buffer__".length+1))="bytearray" by decide +kernel]
 rw[if_neg (show¬((!true)=true)from Bool.false_ne_true)]
 refine b7 hΓ (wpAny_isInstance (T:="bytearray") ⟨_,ho,rfl⟩ (b:=true) (by rw[isSubtype_type];kernel_rfl) ?_)
 refine c7 ?_
 rw[if_neg (show¬((!true)=true)from Bool.false_ne_true)]
 refine a9 (b7 hΓ (wpAny_of_eq (a:=[some (.int i t),none,none]) rfl ?_))
 dsimp only
 refine a9 (c7 ?_)
 refine a9 (c7 ?_)
 refine a9 ?_
 refine a9 (oe hc hb hl ?_)
 refine a9 ?_
 unfold Builtin.Bytes.exportsOf
 refine a9 (b7 hΓ (wpAny_load ho ?_))
 refine c7 (c7 ?_)
 rw[if_neg (show¬(decide (0>0)=true)by decide)]
 refine a9 ?_
 unfold Builtin.Bytes.write updateBytearray
 dsimp only
 refine a9 (b7 hΓ (wpAny_load ho ?_))
 dsimp only
 have h1:=Heap.get?_update_self (Obj.mapBytearray λ_=>#[]) ho rfl
 have h2:=Heap.get?_update_self (Obj.mapBytearray λ_=>Array.replicate i.toNat 0) h1 rfl
 refine a9 (b7 hΓ (wpAny_update ho ?_))
 refine b7 hΓ (wpAny_lookBehind h1 (fv [] 0 (Nat.zero_le _)) ?_)
 refine a9 (c7 ?_)
 refine a9 (c7 ?_)
 refine a9 (b7 hΓ (wpAny_specialOf (typeIs_int _ i t) F.slot_int_index.lookup ?_))
 dsimp only[Option.isSome]
 rw[if_pos rfl]
 refine a9 (b7 hΓ (wpAny_attempt (wpAny_of_eq (a:=i) rfl ?_)))
 dsimp only
 have g1:Builtin.Bytes.fitsIndex i=true:=by rw[hi];unfold Builtin.Bytes.fitsIndex;simp;lia
 have g2:¬i<0:=by lia
 have g3:¬((i==2^63-1)=true):=by rw[beq_iff_eq];lia
 have g4:¬(Builtin.Bytes.tooLong i.toNat=true):=by unfold Builtin.Bytes.tooLong;rw[decide_eq_true_eq,sizeLine_eq];lia
 have g5:i>0:=by lia
 rw[g1,if_neg (show¬((!true)=true)from Bool.false_ne_true),if_neg g2,if_neg g3,if_neg g4]
 refine a9 (b7 hΓ (wpAny_rule ?_))
 rw[if_pos g5]
 refine a9 ?_
 refine a9 (b7 hΓ (wpAny_load h1 ?_))
 refine a9 (b7 hΓ (wpAny_update h1 ?_))
 refine b7 hΓ (wpAny_lookBehind h2 ?_ ?_)
 ·show(if(Array.replicate i.toNat (0:UInt8)).size>sizeLine then some "bytearray:memory" else none)=none
  rw[if_neg]
  rw[Array.size_replicate,sizeLine_eq]
  lia
 ·exact c7 h
section
noncomputable def kk:Kont→Result→Sem PySem.Fin
 |.ret _ _ k _=>k
 |_=>λ_=>.raise .none
theorem lg:entryFor table "bytearray.__init__"=some Builtin.«bytearray.__init__»:=entryFor_of_tree (by kernel_rfl)
theorem y8{id:String}{args:Args}{b:Builtin}(hb:entryFor table id=some b):denote table (.builtin id args)=b args:=by
 show(match entryFor table id with|some b=>b args|none=>unsupported ((withoutEnding? id "#data").getD id))=_
 rw[hb]
theorem n5(args:Args):denote table (.builtin "bytearray.__init__" args)=Builtin.«bytearray.__init__» args:=y8 lg
section
variable{w:World}{hd:Option Value}{A:Around}{R:Result→Shared→Prop}{d:Drawn}{os:OsState}{hb:Heap}{m0:cM}{fr:ah}{s:St}
theorem tp{g:GB}{j a n:Nat}{i:Int}{t:Tok}{ps:List Value}{kw:List (Str×Value)}(hi:i=(n:Int))(hn0:0<n)(hn:n≤1000)
  (ec:s.C=.builtin "bytearray.__init__" ⟨[.ref (a+937),.int i t],[]⟩) (ek:s.K=.ret (.builtin "type.__call__" ⟨.type "bytearray"::ps,kw⟩) none (kk s.K) .base) (et:s.T=Dq (.builtin "bytearray.__init__" ⟨[.ref (a+937),.int i t],[]⟩))
  (ho:gM s.O j=some (a+937,c8 [] 0))
  (h:iV (aG w A R d os hb m0 g fr) ⟨.builtin "type.__call__" ⟨.type "bytearray"::ps,kw⟩,.base,kk s.K (.ok (.ret .none)),dj s.O j (c8 (List.replicate n 0) 0),s.N,s.J⟩):iV (aG w A R d os hb m0 g fr) s:=by
 obtain⟨c,κ,tr,oo,nx,tk⟩:=s
 have ec:c=_:=ec
 have ek:κ=_:=ek
 have et:tr=_:=et
 have ho:gM oo j=_:=ho
 have h:iV (aG w A R d os hb m0 g fr) ⟨_,.base,kk κ (.ok (.ret .none)),dj oo j (c8 (List.replicate n 0) 0),nx,tk⟩:=h
 rw[bO]at ho
 refine⟨λhp H=>?_⟩
 have H:aI (bo w) hb m0 hp (oo++fr) nx:=H
 have hx:hp.get? (a+937)=some (c8 [] 0):=H.own _ (FN _ (List.mem_of_getElem? ho))
 have e1:Obj.mapBytearray (λ_=>#[]) (c8 [] 0)=c8 [] 0:=rfl
 have hni:i.toNat=n:=by lia
 have e2:Obj.mapBytearray (λ_=>Array.replicate i.toNat 0) (c8 [] 0)=c8 (List.replicate n 0) 0:=by
  show(⟨_,none,.bytearray (Array.replicate i.toNat 0) _,_⟩:Obj)=_
  have:Array.replicate i.toNat (0:UInt8)=⟨List.replicate n 0⟩:=by rw[hni];simp
  rw[this]
 have H1:=H.updateF (f:=Obj.mapBytearray λ_=>#[]) ho rfl
 rw[e1]at H1
 have hlt:j<oo.length:=(List.getElem?_eq_some_iff.mp ho).1
 have ho2:(oo.set j (a+937,c8 [] 0))[j]?=some (a+937,c8 [] 0):=by rw[List.getElem?_set_self hlt]
 have H2:=H1.updateF (f:=Obj.mapBytearray λ_=>Array.replicate i.toNat 0) ho2 (by rw[e2];rfl)
 rw[e2,List.set_set,←eX oo j _ ho]at H2
 have z:=h.run _ H2
 show mP (bF w A R d os) κ (i7 (bF w A R d os) κ) c tr _
 subst ec et
 intro Γ p hc hΓ hbl
 rw[ek]at hbl hΓ
 obtain⟨p',l,hbe,hlow⟩:=hbl
 rw[lw,n5]
 refine Sem.wp_mono _ Γ _ (λfin p' s' h'=>h') (λ_ _ _ h'=>h') p _ (po (w:=w) (Q:=λfin s'=>Bd (bF w A R d os) κ (i7 (bF w A R d os) κ) fin s') (hc▸hΓ.in) hc hbe hlow hi hn0 hn hx ?_ p)
 show i7 (bF w A R d os) κ (.ok (.ret .none)) _
 have e3:i7 (bF w A R d os) κ=i7 (bF w A R d os) (.ret (.builtin "type.__call__" ⟨.type "bytearray"::ps,kw⟩) none (kk κ) .base):=congrArg _ ek
 rw[e3]
 exact z
theorem we{g:GB}(F:fP w hd A R d os hb m0)(n' pl:Nat){j a n:Nat}{i:Int}{t:Tok}{ps:List Value}{kw:List (Str×Value)}(hi:i=(n:Int))(hn0:0<n)(hn:n≤1000)
  (ok:(go (ag w hd) n' pl s).Y=true) (ab:(go (ag w hd) n' pl s).A=(go (ag w hd) n' pl s).B)
  (ec:(go (ag w hd) n' pl s).S.C=.builtin "bytearray.__init__" ⟨[.ref (a+937),.int i t],[]⟩) (ek:(go (ag w hd) n' pl s).S.K=.ret (.builtin "type.__call__" ⟨.type "bytearray"::ps,kw⟩) none (kk (go (ag w hd) n' pl s).S.K) .base) (et:(go (ag w hd) n' pl s).S.T=Dq (.builtin "bytearray.__init__" ⟨[.ref (a+937),.int i t],[]⟩))
  (ho:gM (go (ag w hd) n' pl s).S.O j=some (a+937,c8 [] 0))
  (h:iV (aG w A R d os hb m0 g fr) ⟨.builtin "type.__call__" ⟨.type "bytearray"::ps,kw⟩,.base,kk (go (ag w hd) n' pl s).S.K (.ok (.ret .none)),dj (go (ag w hd) n' pl s).S.O j (c8 (List.replicate n 0) 0),(go (ag w hd) n' pl s).S.N,(go (ag w hd) n' pl s).S.J⟩):iV (aG w A R d os hb m0 g fr) s:=
 wa (F g fr) n' pl ok ab (tp hi hn0 hn ec ek et ho h)
end
end
theorem tm{w:World}{i:Int}{t:Tok}:Spec w 0 none (.call (.builtin "bytearray.__new__") ⟨[.type "bytearray",.int i t],[]⟩) [] (X:=Nat) (λnb m=>m+937=nb) (λm=>.ok (.ret (.ref (m+937)))) (λm=>[]++[(m+937,c8 [] 0)]):=by
 obtain⟨v,b1,b2,b3,rfl⟩:=al w
 refine ak λA R d os hb m0 g tk b Z F E=>?_
 refine ks F 1 0 (by kernel_rfl) (by kernel_rfl) (λp below=>by kernel_rfl) ?_
 exact fx F E 1 0 [0] b _ [] [] (FL _) (FK _).symm rfl
theorem y5{w:World}{n:Nat}{i:Int}{t:Tok}(hi:i=(n:Int))(hn0:0<n)(hn:n≤1000):jp w 1 none (.call (.type "bytearray") ⟨[.int i t],[]⟩) [] (X:=Nat) (λ_ _=>True) (λm=>.ok (.ret (.ref (m+937)))) (λm=>[]++[(m+937,c8 (List.replicate n 0) 0)]):=by
 obtain⟨v,b1,b2,b3,rfl⟩:=al w
 refine kS λA R d os hb m0 g tk b Z F E=>?_
 refine Ac (L':=0) (hd':=none) F Z 1 0 (tm (i:=i) (t:=t)) [] λm m1 kk1 g1 _=>?_
 intro sS
 refine we (a:=m) (j:=0) (i:=i) (t:=t) (ps:=[.int i t]) (kw:=[]) F 5 17043521 hi hn0 hn (by kernel_rfl) (by kernel_rfl) (by kernel_rfl) (by kernel_rfl) (by kernel_rfl) (by kernel_rfl) ?_
 refine iN ?_
 exact fx F E 0 0 [0] m _ [] [] (FL _) (FK _).symm trivial
theorem tx{w:World}{a n:Nat}{bs:List UInt8}(hl:bs.length≤1000):Spec w 0 none (.call (.type "bytes") ⟨[.ref (a+937)],[]⟩) [(a+937,c8 bs n)] (X:=Tok) (λ_ _=>True) (λk=>.ok (.ret (.bytes ⟨bs⟩ k))) (λ_=>[(a+937,c8 bs n)]++[]):=by
 obtain⟨v,b1,b2,b3,rfl⟩:=al w
 refine ak λA R d os hb m0 g tk b Z F E=>?_
 refine ze F 14 0x41041041041041 (PySem.W.R.bindR (nE ⟨bs⟩) λv=>PySem.W.Fast.tw10588727092331631241 (.type "bytes") v) (PySem.W.R.bindR (rC ⟨bs⟩) λv=>PySem.W.Fast.tw10588727092331631241 (.type "bytes") v) (by rw[mf bs (by rw[sizeLine_eq];lia)]) (by kernel_rfl) (by kernel_rfl) (by kernel_rfl) ?_
 exact fx F E 5 0 [0] tk _ [] [] (FL _) (FK _).symm trivial
theorem gQ{w:World}{cs:List UInt8}{n wd m':Nat}{t1 t2:Tok}(hlen:cs.length=n)(hn0:0<n)(hn:n≤1000)(hm:n=m'*wd)(h0:0<wd)(hw:wd≤1000):
  jp w 3 none (.call (.ref 51) ⟨[.bytes ⟨cs⟩ t1,.int (wd:Nat) t2],[]⟩) [] (X:=Tok) (λ_ _=>True) (λk=>.ok (.ret (.bytes ⟨yA cs wd m' 0 (List.replicate n 0)⟩ k))) (λ_=>[]++[]):=by
 have hs:=gj hm h0 hn hw
 have hpy:Builtin.divisionGoesByPylong ((n:Nat)-0) (wd:Nat)=false:=PyProof.noPylong_small (by lia)
 have hc0:((wd:Nat):Int)≠0:=by lia
 have hc:cs.length≤1000:=by lia
 have hd:0+m'*wd≤cs.length:=by lia
 have hl2:(List.replicate n (0:UInt8)).length=cs.length:=by rw[List.length_replicate,hlen]
 have hl3:(yA cs wd m' 0 (List.replicate n 0)).length≤1000:=by rw[rx];lia
 have hsz:(⟨cs⟩:Array UInt8).size=n:=hlen
 refine kS λA R d os hb m0 g tk b Z F E=>?_
 refine E8 F Z 11 1090785280 ?_
 intro sS
 refine Ac (L':=0) (hd':=none) F Z 12 16777216 (ei (b:=⟨cs⟩) (t:=t1) hsz hn) [] λl1 m1 kk1 g1 _=>?_
 intro sS
 refine x9 (L':=1) (hd':=none) F Z 2 0 (y5 (i:=(n:Nat)) (t:=l1) rfl hn0 hn) [] λa m2 kk2 g2 _=>?_
 intro sS
 refine iN ?_
 refine cx (L':=0) (hd':=none) F Z 19 68719476801 (ei (b:=⟨cs⟩) (t:=t1) hsz hn) [] λt3 m3 kk3 g3 _=>?_
 intro sS
 refine cx (L':=1) (hd':=none) F Z 4 1 (kH (a:=0) (b:=(n:Nat)) (c:=(wd:Nat)) (t:=kk2+1) (u:=t3+0) (v:=t2+0) hc0 hpy) [] λr m4 kk4 g4 _=>?_
 intro sS
 refine cx (post:=λnn=>[(r+937,fC 0 (n:Nat) (wd:Nat) (kk2+1) (t3+0) (t2+0)),(nn+937,bP (0:Nat) (m':Nat) (wd:Nat))]) (L':=0) (hd':=none) F Z 5 258243 (dY (r:=r) (a:=0) (b:=(n:Nat)) (c:=(wd:Nat)) (n:=(m':Nat)) hs.1 hs.2) [2] λnn m5 kk5 g5 _=>?_
 intro sS
 refine cx (L':=2) (hd':=none) F Z 1 4 (vF (y:=nn) (lo:=b) (q1:=tk) (q2:=tk+1) (q3:=kk2) (t1:=t1) (t2:=t2) (a:=a) hc hw m' 0 (List.replicate n 0) none 3 hd h0 hl2) [3,0,1] λ(z:EA)m6 kk6 g6 _=>?_
 intro sS
 refine cx (L':=0) (hd':=none) F Z 7 4096 (tx (a:=a) (n:=0) (bs:=yA cs wd m' 0 (List.replicate n 0)) hl3) [1] λt' m7 kk7 g7 _=>?_
 intro sS
 exact fx F E 1 0 [] t' _ [] [] (FL _) (FK _).symm trivial
structure Cy where
 r1:Tok
 r2:Tok
 r3:Tok
 q:Tok
noncomputable abbrev qb(cs:List UInt8)(m wd:Nat):List UInt8:=yA cs wd m 0 (List.replicate cs.length 0)
theorem xL{w:World}{cs:List UInt8}{n h y x ac lc lo t1 u1 u2 u3:Nat}(hlen:cs.length=n)(hn0:0<n)(hn:n≤1000)(hh:n=h*2):
  jp w 4 none (sg Code.compStart nF y ac (pd w.params nF lo lc)) [(y+937,ai (x+937) 0),(x+937,aa [.int 1 u1,.int 2 u2,.int (n:Nat) u3] 0),(ac+937,aa [] 0),(lc+937,ae [] 0),(lo+1+937,aC (some (.bytes ⟨cs⟩ t1)))]
   (X:=Cy) (λ_ _=>True) (λ_=>.ok .next) (λr=>[(y+937,av 3),(x+937,aa [.int 1 u1,.int 2 u2,.int (n:Nat) u3] 0),(ac+937,aa [.bytes ⟨qb cs n 1⟩ r.r1,.bytes ⟨qb cs h 2⟩ r.r2,.bytes ⟨qb cs 1 n⟩ r.r3] 3),(lc+937,ae [de w.params Ci r.q (.int (n:Nat) u3)] 1),(lo+1+937,aC (some (.bytes ⟨cs⟩ t1)))]++[]):=by
 have BS1:=λ(w:World)(k:Tok)=>gQ (w:=w) (cs:=cs) (n:=n) (wd:=1) (m':=n) (t1:=t1) (t2:=k) hlen hn0 hn (Nat.mul_one _).symm Nat.one_pos (by lia)
 have BS2:=λ(w:World)(k:Tok)=>gQ (w:=w) (cs:=cs) (n:=n) (wd:=2) (m':=h) (t1:=t1) (t2:=k) hlen hn0 hn hh (by lia) (by lia)
 have BS3:=λ(w:World)(k:Tok)=>gQ (w:=w) (cs:=cs) (n:=n) (wd:=n) (m':=1) (t1:=t1) (t2:=k) hlen hn0 hn (Nat.one_mul _).symm hn0 hn
 subst hlen
 obtain⟨v,b1,b2,b3,rfl⟩:=al w
 refine kS λA R d os hb m0 g tk b Z F E=>?_
 cases b2
 ·
  refine x9 (L':=3) (hd':=none) F Z 38 0x414010404108104104107f041 (BS1 _ u1) [] λr1 m1 kk1 g1 _=>?_
  intro sS
  refine x9 (L':=3) (hd':=none) F Z 35 0x1050041010420410410c30c3 (BS2 _ u2) [] λr2 m2 kk2 g2 _=>?_
  intro sS
  refine x9 (L':=3) (hd':=none) F Z 35 0x1050041010420410410c30c3 (BS3 _ u3) [] λr3 m3 kk3 g3 _=>?_
  intro sS
  refine iN ?_
  exact fx F E 25 0x1c10420410410c30c3 [0,1,2,3,4] ⟨r1,r2,r3,tk⟩ _ [] [] (FL _) (FK _).symm trivial
 ·
  refine x9 (L':=3) (hd':=none) F Z 28 0x105004101042041041 (BS1 _ u1) [] λr1 m1 kk1 g1 _=>?_
  intro sS
  refine x9 (L':=3) (hd':=none) F Z 35 0x1050041010420410410c30c3 (BS2 _ u2) [] λr2 m2 kk2 g2 _=>?_
  intro sS
  refine x9 (L':=3) (hd':=none) F Z 35 0x1050041010420410410c30c3 (BS3 _ u3) [] λr3 m3 kk3 g3 _=>?_
  intro sS
  refine iN ?_
  exact fx F E 25 0x1c10420410410c30c3 [0,1,2,3,4] ⟨r1,r2,r3,tk⟩ _ [] [] (FL _) (FK _).symm trivial
section
open PySem PySem.W PySem.W.X PySem.Spec PySem.Calls PyProof.Rows PySem.SeqAt
theorem jD{w:World}{L:Nat}{hd:Option Value}{pre:ah}{X:Type}{C:Nat→X→Prop}{r:X→Result}{post:X→ah}{T:String}{name:Str}{id:String}{B:Builtin}{self:Value}{rest:List Value}{S:PySem.Spec}
  (slot:Slot T name id) (entry:entryFor table id=some B) (args:argsOk id ⟨self::rest,[]⟩) (g:MeetsIn pw w (B ⟨self::rest,[]⟩) S)
  (h:∀(A:Around)(hp:Heap)(g:GB)(d:Drawn)(tk:Nat)(os:OsState),Rm A L hd→cb w hp→k8 hp pre→(pre.map (·.1)).Nodup→Shared.TypeIs ⟨hp,g,d,tk,os⟩ self T∧S A (bj d os hp hp.objs.size (md (pre.map (·.1))) C r post) ⟨hp,g,d,tk,os⟩):
  Spec w L hd (.call (.builtin id) ⟨self::rest,[]⟩) pre C r post:=λA hp g' d tk os Z hst hpre hoff nd=>by
 obtain⟨hT,hS⟩:=h A hp g' d tk os Z hst hpre nd
 exact codeAny_call_builtin slot.plain entry (slot.check _ _ _ _ _ _ _ _ hT args (g A _ _ hS))
noncomputable def mq(fr:ah)(n:Nat)(v u:Value):Prop:=∀(A:Around)(s:Shared),A.units+n≤9100→k8 s.heap fr→EqAt A s v u true
theorem j2(n:Nat):(List.range n).all (λ_=>true)=true:=by rw[List.all_eq_true];exactλ_ _=>rfl
section
variable{w:World}{L:Nat}{hd:Option Value}{x y ep ey:Nat}{vs us:List Value}{fr:ah}
theorem je{n:Nat}(hlen:vs.length=us.length)(he:∀p∈vs.zip us,mq ([(x+937,aa vs ep),(y+937,aa us ey)]++fr) n p.1 p.2)(hn:n≤50):
  Spec w L hd (.call (.builtin "list.__ne__") ⟨[.ref (x+937),.ref (y+937)],[]⟩) ([(x+937,aa vs ep),(y+937,aa us ey)]++fr) (X:=Unit) (λ_ _=>True) (λ_=>.ok (.ret (.bool false))) (λ_=>[(x+937,aa vs ep),(y+937,aa us ey)]++fr):=
 jD F.slot_list_ne F.entry_list_ne (F.args_list_ne_2 _ _) ((list_neAt (x+937) (y+937) ⟨vs⟩ ⟨us⟩ ep ey none none #[] #[] hlen λ_=>true).inModel pw w) λA hp g d tk os Z hst hpre nd=>by
  have h:=hpre _ (FN _ (.head _))
  have h2:=hpre _ (FN _ (.tail _ (.head _)))
  rw[be]at h h2
  have hZ:=Z.u
  refine⟨⟨_,h,rfl⟩,h,h2,λj h1 h2'=>?_,?_⟩
  ·have hj1:j<vs.length:=h1
   have hj2:j<us.length:=h2'
   have hm:(vs[j],us[j])∈vs.zip us:=List.mem_iff_getElem.mpr ⟨j,by rw[List.length_zip];lia,List.getElem_zip ..⟩
   exact he _ hm A.in1 ⟨hp,g,d,tk,os⟩ (by show A.units+1+n≤_;unfold UL at hZ;lia) hpre
  ·rw[j2]
   exact cz () rfl trivial rfl hpre nd
theorem sb{n:Nat}(hlen:vs.length=us.length)(he:∀p∈vs.zip us,mq ([(x+937,aa vs ep),(y+937,aa us ey)]++fr) n p.1 p.2)(hn:n≤50):
  Spec w L hd (.call (.builtin "list.__eq__") ⟨[.ref (x+937),.ref (y+937)],[]⟩) ([(x+937,aa vs ep),(y+937,aa us ey)]++fr) (X:=Unit) (λ_ _=>True) (λ_=>.ok (.ret (.bool true))) (λ_=>[(x+937,aa vs ep),(y+937,aa us ey)]++fr):=
 jD F.slot_list_eq F.entry_list_eq (F.args_list_eq_2 _ _) ((list_eqAt (x+937) (y+937) ⟨vs⟩ ⟨us⟩ ep ey none none #[] #[] hlen λ_=>true).inModel pw w) λA hp g d tk os Z hst hpre nd=>by
  have h:=hpre _ (FN _ (.head _))
  have h2:=hpre _ (FN _ (.tail _ (.head _)))
  rw[be]at h h2
  have hZ:=Z.u
  refine⟨⟨_,h,rfl⟩,h,h2,λj h1 h2'=>?_,?_⟩
  ·have hj1:j<vs.length:=h1
   have hj2:j<us.length:=h2'
   have hm:(vs[j],us[j])∈vs.zip us:=List.mem_iff_getElem.mpr ⟨j,by rw[List.length_zip];lia,List.getElem_zip ..⟩
   exact he _ hm A.in1 ⟨hp,g,d,tk,os⟩ (by show A.units+1+n≤_;unfold UL at hZ;lia) hpre
  ·rw[j2]
   exact cz () rfl trivial rfl hpre nd
end
theorem mH{fr:ah}{n:Nat}{S:Str}{t u:Tok}:mq fr n (.str S t) (.str S u):=λA s _ _ prog w E Q h=>eqBool_str (by rw[beq_self_eq_true];exact h)
theorem j8{fr:ah}{n:Nat}{cs:List UInt8}{t u:Tok}:mq fr n (.bytes ⟨cs⟩ t) (.bytes ⟨cs⟩ u):=λA s _ _ prog w E Q h=>eqBool_bytes (by rw[decide_eq_true rfl];exact h)
theorem fn{fr:ah}{n a b ea eb:Nat}{vs us:List Value}(hab:a≠b)(ha:(a+937,aa vs ea)∈fr)(hb:(b+937,aa us eb)∈fr)(hlen:vs.length=us.length)(he:∀p∈vs.zip us,mq fr n p.1 p.2):mq fr (n+1) (.ref (a+937)) (.ref (b+937)):=λA s hu hfr=>by
 have h1:=hfr _ ha
 have h2:=hfr _ hb
 have z:=RcAt.lists (A:=A) (s:=s) (dT h1) (dT h2) hlen (by show A.units<9900;lia) (e:=λ_=>true) λj h1 h2'=>by
  have hj1:j<vs.length:=h1
  have hj2:j<us.length:=h2'
  have hm:(vs[j],us[j])∈vs.zip us:=List.mem_iff_getElem.mpr ⟨j,by rw[List.length_zip];lia,List.getElem_zip ..⟩
  exact he _ hm A.in1 s (by show A.units+1+n≤_;lia) hfr
 rw[j2]at z
 exact EqAt.of_refs (λe=>hab (by have:a+937=b+937:=e;lia)) z
theorem dA{fr:ah}{n:Nat}:∀{ps qs:List SV},ps.map (·.1)=qs.map (·.1)→(ps.map sv).length=(qs.map sv).length∧∀p∈(ps.map sv).zip (qs.map sv),mq fr n p.1 p.2
 |[],[],_=>⟨rfl,λ_ h=>absurd h FU⟩
 |p::ps,q::qs,h=>by
  rw[FR,FR]at h
  obtain⟨h1,h2⟩:=dA (fr:=fr) (n:=n) (List.cons.inj h).2
  refine⟨by rw[FR,FR,FT,FT,h1],λz hz=>?_⟩
  rw[FR,FR,List.zip_cons_cons]at hz
  rcases FY.mp hz with rfl|hz
  ·show mq fr n (.str p.1 p.2) (.str q.1 q.2)
   rw[(List.cons.inj h).1]
   exact mH
  ·exact h2 z hz
 |[],_::_,h=>by cases h
 |_::_,[],h=>by cases h
end
section
noncomputable def tL(tk:Nat):List IV:=[(0,tk+1),(6,tk+2),(12,tk+3),(2,tk+4),(8,tk+5)]
noncomputable abbrev d6{w:World}{hd:Option Value}{A:Around}{R:Result→Shared→Prop}{d:Drawn}{os:OsState}{hb:Heap}{m0:cM}(_:fP w hd A R d os hb m0):World:=w
noncomputable def s7(w:World)(L:Nat)(hd:Option Value)(c:Code)(pre:ah){X:Type}(C:Nat→X→Prop)(r:X→Result)(post:X→ah):Prop:=
 ∀(A:Around)(h:Heap)(g:GB)(d:Drawn)(tk:Nat)(os:OsState)(outer:List Env),Rm A L hd→A.frames=some ([]++outer)→cQ w h ([]++outer)→(∀a∈aK outer,a∉pre.map (·.1))→cb w h→k8 h pre→(∀p∈pre,sQ w p.1)→(pre.map (·.1)).Nodup→
  ∀Γ p,Γ.code=c→Γ.Below A→yH Γ.below→wpCode (model pw w) Γ (bj d os h h.objs.size ⟨pre.map (·.1),aK outer⟩ C r post) p ⟨h,g,d,tk,os⟩
theorem vr{w:World}{L:Nat}{hd:Option Value}{c:Code}{pre:ah}{X:Type}{C:Nat→X→Prop}{r:X→Result}{post:X→ah}
  (h:∀(A:Around)(R:Result→Shared→Prop)(d:Drawn)(os:OsState)(hb:Heap)(m0:cM)(g:GB)(tk b:Nat)(outer:List Env),Rm A L hd→fP w hd A R d os hb m0→jF d os hb (b+937) m0 C r post R→Nz w A hb m0 [] outer→
   iV (aG w A R d os hb m0 g []) ⟨c,.base,Dq c,pre,b+937,tk⟩):s7 w L hd c pre C r post:=by
 intro A hb g d tk os outer Z hff fok hdis hst hpre hoff nd Γ p hc hΓ hlow
 obtain⟨b,hbe⟩:∃b,hb.objs.size=b+937:=⟨hb.objs.size-937,by have:=aV w hb hst;omega⟩
 have z:=(h A (bj d os hb hb.objs.size ⟨pre.map (·.1),aK outer⟩ C r post) d os hb ⟨pre.map (·.1),aK outer⟩ g tk b outer Z (λg fr'=>fits w A _ d os hb _ g fr' hd Z.h) ⟨hbe,λ_ _ z=>by rw[hbe];exact z⟩ ⟨hff,fok.split.2,rfl,hdis⟩).run hb
  (by show aI (bo w) hb ⟨pre.map (·.1),aK outer⟩ hb (pre++[]) (b+937);rw[FK];exact⟨hbe,hst,hpre,hoff,nd,λp hp=>.inl (FP hp),λb o e _=>a6 e,hbe▸Nat.le_refl _⟩)
 have z':mP (bF w A (bj d os hb hb.objs.size ⟨pre.map (·.1),aK outer⟩ C r post) d os) .base (bj d os hb hb.objs.size ⟨pre.map (·.1),aK outer⟩ C r post) c (Dq c) ⟨hb,g,d,tk,os⟩:=z
 rw[lw]at z'
 exact jS z' Γ p hc hΓ hlow
theorem xM{w:World}{cs ts:List UInt8}{n h y x ac lc lo t1 u1 u2 u3:Nat}(hp:(cs.length=n∧0<n∧n≤1000∧n=h*2)∧qb cs n 1=cs∧qb cs h 2=ts∧qb cs 1 n=cs.reverse):
  jp w 4 none (sg Code.compStart nF y ac (pd w.params nF lo lc)) [(y+937,ai (x+937) 0),(x+937,aa [.int 1 u1,.int 2 u2,.int (n:Nat) u3] 0),(ac+937,aa [] 0),(lc+937,ae [] 0),(lo+1+937,aC (some (.bytes ⟨cs⟩ t1)))]
   (X:=Cy) (λ_ _=>True) (λ_=>.ok .next) (λr=>[(y+937,av 3),(x+937,aa [.int 1 u1,.int 2 u2,.int (n:Nat) u3] 0),(ac+937,aa [.bytes ⟨cs⟩ r.r1,.bytes ⟨ts⟩ r.r2,.bytes ⟨cs.reverse⟩ r.r3] 3),(lc+937,ae [de w.params Ci r.q (.int (n:Nat) u3)] 1),(lo+1+937,aC (some (.bytes ⟨cs⟩ t1)))]++[]):=by
 obtain⟨⟨h1,h2,h3,h4⟩,h5,h6,h7⟩:=hp
 have z:=xL (w:=w) (x:=x) (y:=y) (ac:=ac) (lc:=lc) (lo:=lo) (t1:=t1) (u1:=u1) (u2:=u2) (u3:=u3) h1 h2 h3 h4
 rw[h5,h6,h7]at z
 exact z
section
variable{w:World}{L:Nat}{hd:Option Value}
theorem xS{P:Value×Value→Prop}{a b c a' b' c':Value}(h1:P (a,a'))(h2:P (b,b'))(h3:P (c,c')):∀p∈[a,b,c].zip [a',b',c'],P p:=by
 intro p hp
 rcases FY.mp hp with h|h
 ·exact h▸h1
 ·rcases FY.mp h with h|h
  ·exact h▸h2
  ·rcases FY.mp h with h|h
   ·exact h▸h3
   ·cases h
theorem uC{x y e f:Nat}{c1 c2 c3:List UInt8}{t1 t2 t3 u1 u2 u3:Tok}:Spec w L hd (.call (.builtin "list.__ne__") ⟨[.ref (x+937),.ref (y+937)],[]⟩) [(x+937,aa [.bytes ⟨c1⟩ t1,.bytes ⟨c2⟩ t2,.bytes ⟨c3⟩ t3] e),(y+937,aa [.bytes ⟨c1⟩ u1,.bytes ⟨c2⟩ u2,.bytes ⟨c3⟩ u3] f)]
  (X:=Unit) (λ_ _=>True) (λ_=>.ok (.ret (.bool false))) (λ_=>[(x+937,aa [.bytes ⟨c1⟩ t1,.bytes ⟨c2⟩ t2,.bytes ⟨c3⟩ t3] e),(y+937,aa [.bytes ⟨c1⟩ u1,.bytes ⟨c2⟩ u2,.bytes ⟨c3⟩ u3] f)]++[]):=by
 exact je (fr:=[]) (n:=1) rfl (xS j8 j8 j8) (by lia)
theorem w3{x y e f:Nat}{c1 c2 c3:Str}{t1 t2 t3 u1 u2 u3:Tok}:Spec w L hd (.call (.builtin "list.__ne__") ⟨[.ref (x+937),.ref (y+937)],[]⟩) [(x+937,aa [.str c1 t1,.str c2 t2,.str c3 t3] e),(y+937,aa [.str c1 u1,.str c2 u2,.str c3 u3] f)]
  (X:=Unit) (λ_ _=>True) (λ_=>.ok (.ret (.bool false))) (λ_=>[(x+937,aa [.str c1 t1,.str c2 t2,.str c3 t3] e),(y+937,aa [.str c1 u1,.str c2 u2,.str c3 u3] f)]++[]):=by
 exact je (fr:=[]) (n:=1) rfl (xS mH mH mH) (by lia)
theorem rn{c:Code}{pre:ah}{X:Type}{C:Nat→X→Prop}{r:X→Result}{post:X→ah}(h:(pre.map (·.1)).Nodup→Spec w L hd c pre C r post):Spec w L hd c pre C r post:=
 λA hp g d tk os Z hst hpre hoff nd=>h nd A hp g d tk os Z hst hpre hoff nd
theorem mr{a b:ah}{p:Addr×Obj}(h:p∈b):p∈a++b:=FO a h
theorem ml{a b:ah}{p:Addr×Obj}(h:p∈a):p∈a++b:=FN b h
theorem lR{l:ah}(nd:(l.map (·.1)).Nodup)(i j:Nat){a b:Nat}{o o':Obj}(hi:l[i]?=some (a+937,o))(hj:l[j]?=some (b+937,o'))(h:i≠j):a≠b:=λe=>by
 have hlt:i<(l.map (·.1)).length:=by rw[FQ];exact(List.getElem?_eq_some_iff.mp hi).1
 refine h ((List.getElem?_inj hlt nd).mp ?_)
 rw[List.getElem?_map,List.getElem?_map,hi,hj,e]
 rfl
theorem db{α:Type}{l:List α}(i:Nat){x:α}(h:l[i]?=some x):x∈l:=List.mem_of_getElem? h
theorem w2{x y e f a1 a2 a3 b1 b2 b3 e1 e2 e3 f1 f2 f3:Nat}{s1 s2 s3 u1 u2 u3:List SV}(h:s1.map (·.1)=u1.map (·.1)∧s2.map (·.1)=u2.map (·.1)∧s3.map (·.1)=u3.map (·.1)):
  Spec w L hd (.call (.builtin "list.__ne__") ⟨[.ref (x+937),.ref (y+937)],[]⟩) [(x+937,aa [.ref (a1+937),.ref (a2+937),.ref (a3+937)] e),(y+937,aa [.ref (b1+937),.ref (b2+937),.ref (b3+937)] f),(a1+937,aa (s1.map sv) e1),(a2+937,aa (s2.map sv) e2),(a3+937,aa (s3.map sv) e3),(b1+937,aa (u1.map sv) f1),(b2+937,aa (u2.map sv) f2),(b3+937,aa (u3.map sv) f3)]
  (X:=Unit) (λ_ _=>True) (λ_=>.ok (.ret (.bool false))) (λ_=>[(x+937,aa [.ref (a1+937),.ref (a2+937),.ref (a3+937)] e),(y+937,aa [.ref (b1+937),.ref (b2+937),.ref (b3+937)] f),(a1+937,aa (s1.map sv) e1),(a2+937,aa (s2.map sv) e2),(a3+937,aa (s3.map sv) e3),(b1+937,aa (u1.map sv) f1),(b2+937,aa (u2.map sv) f2),(b3+937,aa (u3.map sv) f3)]++[]):=by
 refine rn λnd=>?_
 obtain⟨h1,h2,h3⟩:=h
 refine je (fr:=[(a1+937,aa (s1.map sv) e1),(a2+937,aa (s2.map sv) e2),(a3+937,aa (s3.map sv) e3),(b1+937,aa (u1.map sv) f1),(b2+937,aa (u2.map sv) f2),(b3+937,aa (u3.map sv) f3)]) (n:=2) rfl (xS ?_ ?_ ?_) (by lia)
 ·exact fn (n:=1) (ea:=e1) (eb:=f1) (lR nd 2 5 rfl rfl (by decide)) (db 2 rfl) (db 5 rfl) (dA h1 (n:=1) (fr:=[])).1 (dA h1).2
 ·exact fn (n:=1) (ea:=e2) (eb:=f2) (lR nd 3 6 rfl rfl (by decide)) (db 3 rfl) (db 6 rfl) (dA h2 (n:=1) (fr:=[])).1 (dA h2).2
 ·exact fn (n:=1) (ea:=e3) (eb:=f3) (lR nd 4 7 rfl rfl (by decide)) (db 4 rfl) (db 7 rfl) (dA h3 (n:=1) (fr:=[])).1 (dA h3).2
theorem yY{x y ep ey:Nat}{vs us:List SV}(hz:(vs.map sv).length+(us.map sv).length≤sizeLine):Spec w L hd (.call (.builtin "list.__add__") ⟨[.ref (x+937),.ref (y+937)],[]⟩) [(x+937,aa (vs.map sv) ep),(y+937,aa (us.map sv) ey)] (X:=Nat) (λ_ _=>True) (λn=>.ok (.ret (.ref (n+937))))
  (λn=>[(x+937,aa (vs.map sv) ep),(y+937,aa (us.map sv) ey)]++[(n+937,aa ((vs++us).map sv) 0)]):=by
 rw[FM]
 exact iy hz
noncomputable def bE(c:List RL):List (List Str):=c.map λt=>t.2.1.map (·.1)
theorem jP{fr:ah}:∀{c d:List RL},bE c=bE d→(∀p∈RO c,p∈fr)→(∀p∈RO d,p∈fr)→(∀p∈RO c,∀q∈RO d,p.1≠q.1)→(aM c).length=(aM d).length∧∀p∈(aM c).zip (aM d),mq fr 2 p.1 p.2
 |[],[],_,_,_,_=>⟨rfl,λ_ h=>absurd h FU⟩
 |[],_::_,h,_,_,_=>by cases h
 |_::_,[],h,_,_,_=>by cases h
 |t::c,t'::d,h,hc,hd,hx=>by
  have h:t.2.1.map (·.1)::bE c=t'.2.1.map (·.1)::bE d:=h
  obtain⟨h1,h2⟩:=List.cons.inj h
  obtain⟨i1,i2⟩:=jP (fr:=fr) h2 (λp hp=>hc p (.tail _ hp)) (λp hp=>hd p (.tail _ hp)) (λp hp q hq=>hx p (.tail _ hp) q (.tail _ hq))
  refine⟨congrArg (·+1) i1,λp hp=>?_⟩
  rcases FY.mp hp with e|hp
  ·subst e
   exact fn (n:=1) (λe=>hx _ (.head _) _ (.head _) (by show t.1+937=t'.1+937;rw[e])) (hc _ (.head _)) (hd _ (.head _)) (dA h1 (n:=1) (fr:=fr)).1 (dA h1).2
  ·exact i2 p hp
theorem BU{x y e f y1 y2 y3 n1 n2 f1 f2 f3 e1 e2:Nat}{c1 c2 c3 d1 d2:List RL}(h:bE c1=bE d1∧bE c2=bE d2∧bE c3=bE d2):
  Spec w L hd (.call (.builtin "list.__eq__") ⟨[.ref (x+937),.ref (y+937)],[]⟩) ([(x+937,aa [.ref (y1+937),.ref (y2+937),.ref (y3+937)] e),(y+937,aa [.ref (n1+937),.ref (n2+937),.ref (n2+937)] f),(y1+937,aa (aM c1) f1),(y2+937,aa (aM c2) f2),(y3+937,aa (aM c3) f3),(n1+937,aa (aM d1) e1),(n2+937,aa (aM d2) e2)]++(RO c3++(RO c2++(RO c1++(RO d2++RO d1)))))
  (X:=Unit) (λ_ _=>True) (λ_=>.ok (.ret (.bool true))) (λ_=>[(x+937,aa [.ref (y1+937),.ref (y2+937),.ref (y3+937)] e),(y+937,aa [.ref (n1+937),.ref (n2+937),.ref (n2+937)] f),(y1+937,aa (aM c1) f1),(y2+937,aa (aM c2) f2),(y3+937,aa (aM c3) f3),(n1+937,aa (aM d1) e1),(n2+937,aa (aM d2) e2)]++[]++(RO c3++(RO c2++(RO c1++(RO d2++RO d1))))):=by
 refine rn λnd=>?_
 rw[FM]at nd
 obtain⟨na,nb,_⟩:=List.nodup_append.mp nd
 simp only[FM]at nb
 obtain⟨_,nb,x3⟩:=List.nodup_append.mp nb
 obtain⟨_,nb,x2⟩:=List.nodup_append.mp nb
 obtain⟨_,nb,x1⟩:=List.nodup_append.mp nb
 obtain⟨h1,h2,h3⟩:=h
 have mm:∀{l:ah}{p:Addr×Obj},p∈l→p.1∈l.map (·.1):=λhp=>FP hp
 have z:=sb (w:=w) (L:=L) (hd:=hd) (x:=x) (y:=y) (ep:=e) (ey:=f) (vs:=[.ref (y1+937),.ref (y2+937),.ref (y3+937)]) (us:=[.ref (n1+937),.ref (n2+937),.ref (n2+937)]) (fr:=[(y1+937,aa (aM c1) f1),(y2+937,aa (aM c2) f2),(y3+937,aa (aM c3) f3),(n1+937,aa (aM d1) e1),(n2+937,aa (aM d2) e2)]++(RO c3++(RO c2++(RO c1++(RO d2++RO d1))))) (n:=3) rfl (xS ?_ ?_ ?_) (by lia)
 ·exact z
 ·have q:=jP (fr:=[(x+937,aa [.ref (y1+937),.ref (y2+937),.ref (y3+937)] e),(y+937,aa [.ref (n1+937),.ref (n2+937),.ref (n2+937)] f)]++([(y1+937,aa (aM c1) f1),(y2+937,aa (aM c2) f2),(y3+937,aa (aM c3) f3),(n1+937,aa (aM d1) e1),(n2+937,aa (aM d2) e2)]++(RO c3++(RO c2++(RO c1++(RO d2++RO d1)))))) h1 (λ_ hp=>mr (mr (mr (mr (ml hp))))) (λ_ hp=>mr (mr (mr (mr (mr (mr hp)))))) (λp hp q hq=>x1 _ (mm hp) _ (FO _ (mm hq)))
  exact fn (n:=2) (ea:=f1) (eb:=e1) (lR na 2 5 rfl rfl (by decide)) (db 2 rfl) (db 5 rfl) q.1 q.2
 ·have q:=jP (fr:=[(x+937,aa [.ref (y1+937),.ref (y2+937),.ref (y3+937)] e),(y+937,aa [.ref (n1+937),.ref (n2+937),.ref (n2+937)] f)]++([(y1+937,aa (aM c1) f1),(y2+937,aa (aM c2) f2),(y3+937,aa (aM c3) f3),(n1+937,aa (aM d1) e1),(n2+937,aa (aM d2) e2)]++(RO c3++(RO c2++(RO c1++(RO d2++RO d1)))))) h2 (λ_ hp=>mr (mr (mr (ml hp)))) (λ_ hp=>mr (mr (mr (mr (mr (ml hp)))))) (λp hp q hq=>x2 _ (mm hp) _ (FO _ (FN _ (mm hq))))
  exact fn (n:=2) (ea:=f2) (eb:=e2) (lR na 3 6 rfl rfl (by decide)) (db 3 rfl) (db 6 rfl) q.1 q.2
 ·have q:=jP (fr:=[(x+937,aa [.ref (y1+937),.ref (y2+937),.ref (y3+937)] e),(y+937,aa [.ref (n1+937),.ref (n2+937),.ref (n2+937)] f)]++([(y1+937,aa (aM c1) f1),(y2+937,aa (aM c2) f2),(y3+937,aa (aM c3) f3),(n1+937,aa (aM d1) e1),(n2+937,aa (aM d2) e2)]++(RO c3++(RO c2++(RO c1++(RO d2++RO d1)))))) h3 (λ_ hp=>mr (mr (ml hp))) (λ_ hp=>mr (mr (mr (mr (mr (ml hp)))))) (λp hp q hq=>x3 _ (mm hp) _ (FO _ (FO _ (FN _ (mm hq)))))
  exact fn (n:=2) (ea:=f3) (eb:=e2) (lR na 4 6 rfl rfl (by decide)) (db 4 rfl) (db 6 rfl) q.1 q.2
end
theorem zv(a b:ah):((a++b)++[]).Perm ((b++[])++a):=by rw[FK,FK];exact List.perm_append_comm
theorem zw(a b c:ah):((a++b)++c).Perm (b++(a++c)):=by rw[←FV];exact List.perm_append_comm.append_right c
theorem zx(a b c d e f g:ah):((a++(b++(c++[])))++((d++e)++(f++g))).Perm ((a++(b++(c++(d++g))))++(e++f)):=by
 simp only[FK,FV]
 refine .append_left a (.append_left b (.append_left c (.append_left d ?_)))
 rw[←FV e f g]
 exact List.perm_append_comm
end
noncomputable abbrev c4(cs:List UInt8)(t:Tok)(i:Nat):Obj:=⟨.type "bytes_iterator",none,.fields ⟨[.bytes ⟨cs⟩ t,.int (i:Nat) 0]⟩,⟨[]⟩⟩
noncomputable abbrev j3(i:Nat):Obj:=⟨.type "bytes_iterator",none,.fields ⟨[.none,.int (i:Nat) 0]⟩,⟨[]⟩⟩
theorem o7:Slot "bytes_iterator" "__next__" "bytes_iterator.__next__" :=
 .of (owner:="bytes_iterator") (n:="__next__") (by rw[typeLookup_type,builtinLookup_eq_fast];kernel_rfl) (by decide +kernel) (by decide +kernel) (by decide +kernel)
  (by first|exact .inl (by decide +kernel)|exact .inr (by decide +kernel)) (by rw[isSubtype_type];kernel_rfl)
theorem lH:entryFor table "bytes_iterator.__next__"=some Builtin.«bytes_iterator.__next__»:=entryFor_of_tree (by kernel_rfl)
theorem nV(a:Value):argsOk "bytes_iterator.__next__" ⟨[a],[]⟩:=by unfold argsOk;kernel_rfl
theorem ky(w:World)(it:Addr)(i:Nat)(cs:List UInt8)(t:Tok)(c:UInt8)(hx:cs[i]?=some c):
  MeetsIn pw w (Builtin.«bytes_iterator.__next__» ⟨[.ref it],[]⟩) (λ_ R s=>s.heap.get? it=some (c4 cs t i)∧R (.ok (.ret (.int c.toNat s.toks))) {s with heap:=s.heap.update it (Obj.mapFields λf=>f.setIfInBounds 1 (rawInt (i+1))),toks:=s.toks+1}):=
 .of_wp λA R s⟨ho,h⟩=>by
  have hx':(⟨cs⟩:Array UInt8)[i]?=some c:=by simpa using hx
  show wpAny _ _ (field (.ref it) 0>>=_) _ _ s
  refine wpAny_bind (wpAny_field ho rfl (x:=.bytes ⟨cs⟩ t) rfl ?_)
  show wpAny _ _ (if(Value.bytes ⟨cs⟩ t==Value.none)=true then _ else _) _ _ s
  rw[if_neg (show¬((Value.bytes ⟨cs⟩ t==Value.none)=true)from Bool.false_ne_true)]
  show wpAny _ _ (field (.ref it) 1>>=_) _ _ s
  refine wpAny_bind (wpAny_field ho rfl (x:=.int i 0) rfl ?_)
  refine wpAny_bind (wpAny_of_eq (a:=(⟨cs⟩:Array UInt8)) rfl ?_)
  simp only[Int.toNat_natCast,hx']
  exact wpAny_bind (wpAny_setField ho rfl (by simp) (wpAny_bind (wpAny_mkInt (wpAny_pure ⟨_,rfl,h⟩))))
theorem tv{w:World}{L:Nat}{hd:Option Value}{y i:Nat}{cs:List UInt8}{t:Tok}{c:UInt8}(hx:cs[i]?=some c):Spec w L hd (.call (.builtin "bytes_iterator.__next__") ⟨[.ref (y+937)],[]⟩) [(y+937,c4 cs t i)] (X:=Tok) (λ_ _=>True) (λk=>.ok (.ret (.int c.toNat k))) (λ_=>[(y+937,c4 cs t (i+1))]):=
 aq o7 lH (nV _) (ky w (y+937) i cs t c hx) λA hp g d tk os hA hst hpre nd=>by
  have h:=hpre _ (.head _)
  have hs:Heap.SameBut (y+937) hp (hp.update (y+937) (Obj.mapFields λf=>f.setIfInBounds 1 (rawInt (i+1)))):=Heap.SameBut.update ..
  refine⟨⟨_,h,rfl⟩,h,tk,_,tk+1,g,rfl,trivial,?_,λp h=>.inl (by simpa using FP (f:=(·.1)) h),by simp,?_,?_⟩
  ·intro p hp'
   cases FW.mp hp'
   exact Heap.get?_update_self _ h rfl
  ·intro b o e hb
   simp only[FR,List.map_nil,FW]at hb
   exact a6 ((hs.2 b hb).trans e)
  ·exact Nat.le_of_eq hs.1.symm
theorem lm(w:World)(it:Addr)(i:Nat)(cs:List UInt8)(t:Tok)(hx:cs[i]?=none):
  MeetsIn pw w (Builtin.«bytes_iterator.__next__» ⟨[.ref it],[]⟩) (λA R s=>A.handled=none∧s.heap.get? it=some (c4 cs t i)∧
   R (.error (.ref (s.heap.objs.size+1))) {s with heap:=((s.heap.update it (Obj.mapFields λf=>f.setIfInBounds 0 .none)).push {cls:=.type "tuple",data:=.seq #[]}).push {cls:=.type "StopIteration",data:=.fields #[.ref s.heap.objs.size,.none,.none,.none,.bool false,.none]}}):=
 .of_wp λA R s⟨hh,ho,h⟩=>by
  have hx':(⟨cs⟩:Array UInt8)[i]?=none:=by simpa using hx
  show wpAny _ _ (field (.ref it) 0>>=_) _ _ s
  refine wpAny_bind (wpAny_field ho rfl (x:=.bytes ⟨cs⟩ t) rfl ?_)
  show wpAny _ _ (if(Value.bytes ⟨cs⟩ t==Value.none)=true then _ else _) _ _ s
  rw[if_neg (show¬((Value.bytes ⟨cs⟩ t==Value.none)=true)from Bool.false_ne_true)]
  show wpAny _ _ (field (.ref it) 1>>=_) _ _ s
  refine wpAny_bind (wpAny_field ho rfl (x:=.int i 0) rfl ?_)
  refine wpAny_bind (wpAny_of_eq (a:=(⟨cs⟩:Array UInt8)) rfl ?_)
  simp only[Int.toNat_natCast,hx']
  refine wpAny_bind (wpAny_rule (wpAny_bind (wpAny_setField ho rfl (by simp) ?_)))
  show wpAny _ _ (newExc (.type "StopIteration") []>>=_) _ _ _
  refine wpAny_bind ?_
  delta newExc newTuple
  refine wpAny_bind (wpAny_newObj_type ?_ (by size_fits))
  refine wpAny_bind (m:=firstArgMember _ _) (wpAny_of_eq (a:=Value.none) (by first|rfl|(simp only[firstArgMember];rfl)) ?_)
  refine wpAny_newObj_type ?_ (by size_fits)
  delta raiseNew
  refine wpAny_bind (wpAny_handled ?_)
  rw[show A.in1.handled=none from hh]
  refine wpAny_bind (wpAny_pure (wpAny_throw ?_))
  have e1:(s.heap.update it (Obj.mapFields λf=>f.setIfInBounds 0 .none)).objs.size=s.heap.objs.size:=(Heap.SameBut.update ..).1
  simp only[Heap.size_push,e1]
  exact h
theorem wi{w:World}{L:Nat}{y i:Nat}{cs:List UInt8}{t:Tok}(hx:cs[i]?=none):Spec w L none (.call (.builtin "bytes_iterator.__next__") ⟨[.ref (y+937)],[]⟩) [(y+937,c4 cs t i)] (X:=Nat) (λ_ _=>True) (λn=>.error (.ref (n+938))) (λn=>[(y+937,j3 i)]++[(n+937,aW []),(n+938,b8 (n+937))]):=
 aq o7 lH (nV _) (lm w (y+937) i cs t hx) λA hp g d tk os hA hst hpre nd=>by
  have h:=hpre _ (.head _)
  obtain⟨n,hn⟩:∃n,hp.objs.size=n+937:=⟨hp.objs.size-937,by have:=aV w hp hst;lia⟩
  have hs:Heap.SameBut (y+937) hp (hp.update (y+937) (Obj.mapFields λf=>f.setIfInBounds 0 .none)):=Heap.SameBut.update ..
  have l1:y+937<n+937:=hn▸Heap.lt_size h
  rw[hn]
  refine⟨⟨_,h,rfl⟩,hA,h,n,_,tk,g,rfl,trivial,?_,?_,?_,?_,?_⟩
  ·intro p hp'
   simp only[List.cons_append,List.nil_append,FY,FU,or_false]at hp'
   rcases hp' with rfl|rfl|rfl
   ·exact Heap.get?_push_of_some _ (Heap.get?_push_of_some _ (Heap.get?_update_self _ h rfl))
   ·refine Heap.get?_push_of_some _ ?_
    rw[iQ,←hn,←hs.1]
    exact Heap.get?_push_size _ rfl
   ·rw[iK]
    have:n+938=((hp.update (y+937) (Obj.mapFields λf=>f.setIfInBounds 0 .none)).push {cls:=.type "tuple",data:=.seq #[]}).objs.size:=by rw[Heap.size_push,hs.1,hn]
    rw[this]
    exact Heap.get?_push_size _ rfl
  ·intro p hp'
   simp only[List.cons_append,List.nil_append,FY,FU,or_false]at hp'
   rcases hp' with rfl|rfl|rfl
   ·exact .inl (.head _)
   ·exact .inr (Nat.le_refl _)
   ·exact .inr (Nat.le_succ _)
  ·simp only[List.cons_append,List.nil_append,FR,List.map_nil,List.nodup_cons,FY,FU,or_false,not_or,not_false_eq_true,List.nodup_nil,and_true]
   exact⟨⟨Nat.ne_of_lt l1,Nat.ne_of_lt (Nat.lt_succ_of_lt l1)⟩,Nat.ne_of_lt (Nat.lt_succ_self _)⟩
  ·intro b o e hb
   simp only[FR,List.map_nil,FW]at hb
   exact a6 (Heap.get?_push_of_some _ (Heap.get?_push_of_some _ ((hs.2 b hb).trans e)))
  ·rw[Heap.size_push,Heap.size_push,hs.1,hn]
   lia
noncomputable def fY(cs:List UInt8):List Str:=cs.map λc=>nm c.toNat
structure Ey where
 i:Nat
 ss:List SV
 ea:Nat
 ec:Nat
 o:Option (Tok×Value)
structure B9 where
 i:Nat
 ss:List SV
 ea:Nat
 ec:Nat
 o:Tok×Value
noncomputable abbrev Cp(P:Params):Option (Tok×Value)→List DictEntry
 |none=>[]
 |some p=>[de P (u [111,99,116,101,116]) p.1 p.2]
theorem w1{w:World}{y ac lo lc t1:Nat}{cs:List UInt8}(h6:∀c∈cs,c.toNat<6):∀(rem:List UInt8)(i:Nat)(ss:List SV)(o:Option (Tok×Value))(ea ec:Nat),cs.drop i=rem→ss.length+rem.length≤100→
  Spec w 2 none (Fb Code.compLoop w.params y ac lo lc) [(y+937,c4 cs t1 i),(ac+937,aa (ss.map sv) ea),(lc+937,ae (Cp w.params o) ec)]
   (X:=Ey) (λ_ r=>r.ss.map (·.1)=ss.map (·.1)++fY rem∧((o.isSome=true∨rem≠[])→r.o.isSome=true)) (λ_=>.ok .next) (λr=>[(y+937,j3 r.i),(ac+937,aa (r.ss.map sv) r.ea),(lc+937,ae (Cp w.params r.o) r.ec)]):=by
 intro rem
 induction rem with
 |nil =>
  intro i ss o ea ec hr hl
  have hx:cs[i]?=none:=by
   rw[List.getElem?_eq_none]
   exact List.drop_eq_nil_iff.mp hr
  refine ak λA R d os hb m0 g tk b Z F E=>?_
  refine cx (L':=0) (hd':=none) F Z 2 1 (wi (y:=y) (i:=i) (cs:=cs) (t:=t1) hx) [0] λnn m1 kk1 g1 _=>?_
  intro sS
  exact fx F E 1 5 [0,1,2] ⟨i,ss,ea,ec,o⟩ _ [] [] (FL _) (FK _).symm ⟨(FK _).symm,λq=>q.elim id λz=>absurd rfl z⟩
 |cons c rem ih =>
  intro i ss o ea ec hr hl
  obtain⟨hx,hr'⟩:=aN hr
  have hc6:c.toNat<6:=h6 _ (List.mem_of_getElem? hx)
  rw[FT]at hl
  have hrs:(ss.map sv).length≤sizeLine:=by rw[FQ,sizeLine_eq];lia
  have J:=λ(q:SV)(o:Option (Tok×Value))(ea ec:Nat)=>ih (i+1) (ss++[q]) o ea ec hr' (by rw[FZ];simp only[FT,List.length_nil];lia)
  have em:∀q:SV,(ss++[q]).map sv=ss.map sv++[sv q]:=λq=>FM
  clear ih
  refine ak λA R d os hb m0 g tk b Z F E=>?_
  refine cx (L':=0) (hd':=none) F Z 2 1 (tv (y:=y) (i:=i) (cs:=cs) (t:=t1) (c:=c) hx) [0] λt m1 kk1 g1 _=>?_
  show Gd _ _
  apply oj F o ec 13 786627 (kk1,.none) 1
  ·kernel_rfl
  ·intro _ _;kernel_rfl
  ·intro _ _;kernel_rfl
  rintro⟨q1,z1⟩ ec
  refine cx (L':=1) (hd':=none) F Z 0 0 (mX _ c.toNat hc6 t) [] λs2 m2 kk2 g2 _=>?_
  intro sS
  refine cx (L':=0) (hd':=none) F Z 1 0 (af (x:=ac) (ep:=ea) (v:=sv (nm c.toNat,s2)) hrs) [1] λ_ m3 kk3 g3 _=>?_
  intro sS
  have z:=J (nm c.toNat,s2) (some (q1,.int (c.toNat:Nat) t)) (ea+1) ec
  rw[em]at z
  exact AU F E Z 0 0 z [0,1,2] (λ_ x _ hC=>⟨x,⟨hC.1.trans (by rw[FM,FV];rfl),λ_=>hC.2 (.inl rfl)⟩,rfl,λ_ h=>h,id⟩)
theorem kA{w:World}{y ac lo lc t1:Nat}{cs:List UInt8}(h6:∀c∈cs,c.toNat<6)(hl:cs.length≤100)(hne:cs≠[]):
  Spec w 2 none (Fb Code.compStart w.params y ac lo lc) [(y+937,c4 cs t1 0),(ac+937,aa ([].map sv) 0),(lc+937,ae (Cp w.params none) 0)]
   (X:=B9) (λ_ r=>r.ss.map (·.1)=fY cs) (λ_=>.ok .next) (λr=>[(y+937,j3 r.i),(ac+937,aa (r.ss.map sv) r.ea),(lc+937,ae (Cp w.params (some r.o)) r.ec)]):=by
 have S:=w1 (w:=w) (y:=y) (ac:=ac) (lo:=lo) (lc:=lc) (t1:=t1) h6 cs 0 [] none 0 0 rfl (by rw[List.length_nil];lia)
 obtain⟨v,b1,b2,b3,rfl⟩:=al w
 have z:=bC (C:=λr:Ey=>r.ss.map (·.1)=[]++fY cs∧(((none:Option (Tok×Value)).isSome=true∨cs≠[])→r.o.isSome=true)) (o:=c4 cs t1 0) S (λb tk=>by refine Bool.rec ?_ ?_ b2<;>kernel_rfl)
 refine z.convP (Nat.le_refl _) (FL _) λn r hC=>?_
 obtain⟨i,ss,ea,ec,o⟩:=r
 obtain⟨oo,rfl⟩:=Option.isSome_iff_exists.mp (hC.2 (.inr hne))
 exact⟨⟨i,ss,ea,ec,oo⟩,hC.1,rfl,FL _⟩
structure mt where
 a1:Nat
 a2:Nat
 a3:Nat
 s1:List SV
 s2:List SV
 s3:List SV
 e1:Nat
 e2:Nat
 e3:Nat
 q:Tok
theorem w0{w:World}{y x ac lo lc ex t1 t2 t3:Nat}{c1 c2 c3:List UInt8}(hl1:(∀c∈c1,c.toNat<6))(hl2:∀c∈c2,c.toNat<6)(hl3:∀c∈c3,c.toNat<6)(hc1:c1.length≤100)(hc2:c2.length≤100)(hc3:c3.length≤100)(hn1:c1≠[])(hn2:c2≠[])(hn3:c3≠[]):
  Spec w 3 none (sg Code.compStart kx y ac (fL kx (fW w.params lo) lc)) ([(y+937,ai (x+937) 0)]++[(x+937,aa [.bytes ⟨c1⟩ t1,.bytes ⟨c2⟩ t2,.bytes ⟨c3⟩ t3] ex),(ac+937,aa [] 0),(lc+937,ae [] 0)])
   (X:=mt) (λ_ r=>r.s1.map (·.1)=fY c1∧r.s2.map (·.1)=fY c2∧r.s3.map (·.1)=fY c3) (λ_=>.ok .next)
   (λr=>[(y+937,av 3),(x+937,aa [.bytes ⟨c1⟩ t1,.bytes ⟨c2⟩ t2,.bytes ⟨c3⟩ t3] ex),(ac+937,aa [.ref (r.a1+937),.ref (r.a2+937),.ref (r.a3+937)] 3),(lc+937,ae [de w.params U7 r.q (.bytes ⟨c3⟩ t3)] 1)]++[(r.a1+937,aa (r.s1.map sv) r.e1),(r.a2+937,aa (r.s2.map sv) r.e2),(r.a3+937,aa (r.s3.map sv) r.e3)]):=by
 obtain⟨v,b1,b2,b3,rfl⟩:=al w
 refine bC (C:=λr:mt=>r.s1.map (·.1)=fY c1∧r.s2.map (·.1)=fY c2∧r.s3.map (·.1)=fY c3) ?_ (λb tk=>by refine Bool.rec ?_ ?_ b2<;>kernel_rfl)
 refine ak λA R d os hb m0 g tk b Z F E=>?_
 refine cx (L':=2) (hd':=none) F Z 29 0x17f104101042041041 (kA (y:=b) (ac:=b+1) (lo:=lo) (lc:=b+2) (t1:=t1) (cs:=c1) hl1 hc1 hn1) [4,5,6] λ(r1:B9)m1 kk1 g1 hr1=>?_
 intro sS
 refine cx (L':=2) (hd':=none) F Z 42 0x8fc41040410810410430c30c71c7 (kA (y:=m1) (ac:=m1+1) (lo:=lo) (lc:=m1+2) (t1:=t2) (cs:=c2) hl2 hc2 hn2) [7,8,9] λ(r2:B9)m2 kk2 g2 hr2=>?_
 intro sS
 refine cx (L':=2) (hd':=none) F Z 42 0xbfc41040410810410430c30ca28a (kA (y:=m2) (ac:=m2+1) (lo:=lo) (lc:=m2+2) (t1:=t3) (cs:=c3) hl3 hc3 hn3) [10,11,12] λ(r3:B9)m3 kk3 g3 hr3=>?_
 intro sS
 exact fx F E 29 0xf0410810410430c30cd34d [0,1,2,3,5,8,11] ⟨b+1,m1+1,m2+1,r1.ss,r2.ss,r3.ss,r1.ea,r2.ea,r3.ea,tk⟩ _ [] [] (FL _) (FK _).symm ⟨hr1,hr2,hr3⟩
theorem uU(G:List Nd):(GO G++[]).Perm ((GO G++RO [])++[]):=by
 have e:RO []=[]:=rfl
 rw[e,FK,FK]
structure ie where
 y:Nat
 ey:Nat
 acc:List RL
theorem vb{w:World}{x1 x2 x3 k1 k2 k3 k4 t3 t4 ep ep2 n:Nat}{G:List Nd}{es:List DictEntry}{ρ:Str→Nat}(h:KV (SK w) es (aH G))(hρ:∀v∈G,∀s∈v.ss,ρ s.1 < ρ v.S)(hcl:∀v∈G,∀s∈v.ss,s.1∈(ao G).map (·.1))(hG:G≠[])(hG64:G.length≤64)
  (hg:gL n (ao G) (bG (ao G))) (hn:([]:List RL).length+n≤100):
  aR w 7 none [] (.call (.ref 926) ⟨[.ref (x1+937)],[]⟩) ([(x1+937,ap 167 (x2+937)),(x2+937,au w.params k1 k2 k3 k4 t3 t4 (x3+937) .none 0 0 ep),(x3+937,ae es ep2)]++GO G)
   (X:=ie) (λ_ x=>bV (λ(t:RL)R=>eH (t.2.1.map (·.1)) R) x.acc (bB n (ao G) (bG (ao G)))) (λx=>.ok (.ret (.ref (x.y+937))))
   (λx=>[(x.y+937,aa (aM x.acc) x.ey)]++RO x.acc):=by
 have prep':=λ(h:KV (SK w) es (aH G))(hρ:∀v∈G,∀s∈v.ss,ρ s.1 < ρ v.S)hcl hG hG64=>su (x1:=x1) (x2:=x2) (x3:=x3) (k1:=k1) (k2:=k2) (k3:=k3) (k4:=k4) (t3:=t3) (t4:=t4) (ep:=ep) (ep2:=ep2) (out:=0) (fin:=0) h hρ hcl hG hG64
 obtain⟨v,b1,b2,b3,rfl⟩:=al w
 refine aZ _ _ λA R d os hb m0 g tk b outer Z F E N=>?_
 refine ex F Z 7 1064960 ?_
 intro sS
 refine cn (L':=6) (hd':=none) F Z N 24 0x81000000040000040000044 [(x1+937,ap 167 (x2+937)),(x2+937,au (ay v b1 b2 b3).params k1 k2 k3 k4 t3 t4 (x3+937) .none 0 0 ep),(x3+937,ae es ep2)] (GO G) [] (λ(z:xV)=>aQ (ay v b1 b2 b3).params x1 x2 x3 z.x4 k1 k2 k3 k4 t3 t4 ep 0 0++[(x3+937,ae es ep2)]) (λz=>[(z.x4+937,aa (z.rl.map sv) z.ea)]) (λz=>GO G) (prep' h hρ hcl hG hG64) [0,1,2] 3 (bH 926 (xb (ay v b1 b2 b3).params) b) (b+937) (df [de (ay v b1 b2 b3).params U6 tk (.ref (x1+937))] 1 ⟨[]⟩) (by rw[FK]) λz m1 kk1 g1 σ hC=>?_
 intro sS
 refine cf (L':=5) (hd':=none) F Z 12 260 ([sA (ay v b1 b2 b3).params b tk kk1 x1 m1 none 2 σ,(m1+937,aa (aM []) 0),(x1+937,ap 167 (x2+937)),(x2+937,au (ay v b1 b2 b3).params k1 k2 k3 k4 t3 t4 (x3+937) (.ref (z.x4+937)) 0 0 ep),(x3+937,ae es ep2),(z.x4+937,aa (z.rl.map sv) z.ea)]) (GO G++RO []) ([]) (λ(y:z9)=>[sA (ay v b1 b2 b3).params b tk kk1 x1 m1 y.o y.ee σ,(m1+937,aa (aM y.acc) y.ey),(x1+937,ap 167 (x2+937)),(x2+937,au (ay v b1 b2 b3).params k1 k2 k3 k4 y.t3 y.t4 (x3+937) (.ref (z.x4+937)) y.out y.fin ep),(x3+937,ae es ep2),(z.x4+937,aa [] y.e4)]) (λ(y:z9)=>[]) (λ(y:z9)=>GO y.G++RO y.acc) (xi (lo:=b) (y:=m1) n [] none 2 t3 t4 z.ea 0 0 0 G z.rl h (hC▸hg) rfl hn) [3,5,0,1,2,4] (uU G) λ(y:z9)m2 kk2 g2 hy=>?_
 show Gd _ _
 obtain⟨L,e1,e2⟩:=hy
 have e1:y.acc=L:=e1
 subst e1
 exact fx F E 3 4 [5] ⟨m1,y.ey,y.acc⟩ _ (RO y.acc) (GO y.G) (by rw[FK];exact List.perm_append_comm) rfl (hC▸e2)
noncomputable def cK(r:List (Str×Str)):List AN:=r.foldl (λA p=>jH A p.1 p.2) []
noncomputable abbrev jT(ar:List (SV×SV)):List (Str×Str):=ar.map λp=>(p.1.1,p.2.1)
theorem nP(ar:List (SV×SV)):iY [] ar=cK (jT ar):=by
 unfold iY cK jT
 rw[List.foldl_map]
structure gI(r:List (Str×Str))(n:Nat):Prop where
 rk:∃ρ:Str→Nat,∀a∈cK r,∀s∈a.2.2,ρ s < ρ a.1
 cl:∀a∈cK r,∀s∈a.2.2,s∈(cK r).map (·.1)
 ne:cK r≠[]
 sz:(cK r).length≤64
 good:gL n (cK r) (bG (cK r))
 n100:n≤100
noncomputable abbrev fO(r:List (Str×Str))(n:Nat):List (List Str):=bB n (cK r) (bG (cK r))
theorem jN{G:List Nd}{v:Nd}(h:v∈G):v.abs∈ao G:=FP h
theorem jh{w:World}{n:Nat}{ar:List (SV×SV)}(ok:gI (jT ar) n)(g:fb)(hg:KV (SK w) g.es (aH g.G)∧ao g.G=iY [] ar):
  aR w 7 none [] (.call (.ref 926) ⟨[.ref (g.x1+937)],[]⟩) ([(g.x1+937,ap 167 (g.x2+937)),(g.x2+937,au w.params g.k1 g.k2 g.k3 g.k4 g.t3 g.t4 (g.x3+937) .none 0 0 4),(g.x3+937,ae g.es g.e2)]++GO g.G)
   (X:=ie) (λ_ x=>bV bq x.acc (fO (jT ar) n)) (λx=>.ok (.ret (.ref (x.y+937)))) (λx=>[(x.y+937,aa (aM x.acc) x.ey)]++RO x.acc):=by
 obtain⟨hkv,ha⟩:=hg
 rw[nP]at ha
 obtain⟨⟨ρ,hρ⟩,hcl,hne,hsz,hgood,hn⟩:=ok
 have z:=vb (w:=w) (x1:=g.x1) (x2:=g.x2) (x3:=g.x3) (k1:=g.k1) (k2:=g.k2) (k3:=g.k3) (k4:=g.k4) (t3:=g.t3) (t4:=g.t4) (ep:=4) (ep2:=g.e2) (n:=n) (ρ:=ρ) hkv
  (λv hv s hs=>hρ _ (ha▸jN hv) s.1 (FP hs))
  (λv hv s hs=>by rw[ha];exact hcl _ (ha▸jN hv) s.1 (FP hs))
  (λe=>hne (by rw[←ha,e];rfl))
  (by have:(ao g.G).length=g.G.length:=FQ ..;rw[ha]at this;lia)
  (by rw[ha];exact hgood) (by rw[List.length_nil];lia)
 rw[ha]at z
 exact z
theorem iI{w:World}{y ep4:Nat}{ps:List SV}{ar:List (SV×SV)}(hps:ps=cE ar)(ha:ar.length=5∨ar.length=6∨ar.length=7∨ar.length=8∨ar.length=9∨ar.length=10∨ar.length=12∨ar.length=14∨ar.length=16∨ar.length=18)(hne:∀p∈ar,p.1.1≠p.2.1):xW w y ep4 ps ar:=vm hps (by lia) hne
structure yK where
 y1:Nat
 y2:Nat
 y3:Nat
 c1:List RL
 c2:List RL
 c3:List RL
 f1:Nat
 f2:Nat
 f3:Nat
 q:Tok
theorem BR{w:World}{y x ac lo lc ex a1 a2 a3 e1 e2 e3 n1 n2 n3:Nat}{s1 s2 s3:List SV}{r1 r2 r3:List (SV×SV)}(h1:s1=cE r1)(h2:s2=cE r2)(h3:s3=cE r3)
  (l1:5≤r1.length∧r1.length≤9) (l2:5≤r2.length∧r2.length≤9) (l3:5≤r3.length∧r3.length≤9) (d1:∀p∈r1,p.1.1≠p.2.1) (d2:∀p∈r2,p.1.1≠p.2.1) (d3:∀p∈r3,p.1.1≠p.2.1)
  (o1:gI (jT r1) n1) (o2:gI (jT r2) n2) (o3:gI (jT r3) n3):
  aR w 8 none [] (pP Code.compStart w.params rb y ac lo lc) [(y+937,ai (x+937) 0),(x+937,aa [.ref (a1+937),.ref (a2+937),.ref (a3+937)] ex),(ac+937,aa [] 0),(lc+937,ae [] 0),(a1+937,aa (s1.map sv) e1),(a2+937,aa (s2.map sv) e2),(a3+937,aa (s3.map sv) e3)]
   (X:=yK) (λ_ r=>bV bq r.c1 (fO (jT r1) n1)∧bV bq r.c2 (fO (jT r2) n2)∧bV bq r.c3 (fO (jT r3) n3)) (λ_=>.ok .next)
   (λr=>[(y+937,av 3),(x+937,aa [.ref (a1+937),.ref (a2+937),.ref (a3+937)] ex),(ac+937,aa [.ref (r.y1+937),.ref (r.y2+937),.ref (r.y3+937)] 3),(lc+937,ae [de w.params U7 r.q (.ref (a3+937))] 1),(a1+937,aa (s1.map sv) e1),(a2+937,aa (s2.map sv) e2),(a3+937,aa (s3.map sv) e3)]++[(r.y1+937,aa (aM r.c1) r.f1),(r.y2+937,aa (aM r.c2) r.f2),(r.y3+937,aa (aM r.c3) r.f3)]++(RO r.c3++(RO r.c2++(RO r.c1++[])))):=by
 have SO1:=λw:World=>iI (w:=w) (y:=a1) (ep4:=e1) h1 (by lia) d1
 have SO2:=λw:World=>iI (w:=w) (y:=a2) (ep4:=e2) h2 (by lia) d2
 have SO3:=λw:World=>iI (w:=w) (y:=a3) (ep4:=e3) h3 (by lia) d3
 have RN1:=λ(w:World)=>jh (w:=w) o1
 have RN2:=λ(w:World)=>jh (w:=w) o2
 have RN3:=λ(w:World)=>jh (w:=w) o3
 clear h1 h2 h3 l1 l2 l3 d1 d2 d3
 obtain⟨v,b1,b2,b3,rfl⟩:=al w
 have z:aR (ay v b1 b2 b3) 8 none [] (pP Code.compStart (ay v b1 b2 b3).params rb y ac lo lc) ([(y+937,ai (x+937) 0),(x+937,aa [.ref (a1+937),.ref (a2+937),.ref (a3+937)] ex),(ac+937,aa [] 0),(lc+937,ae [] 0),(a1+937,aa (s1.map sv) e1),(a2+937,aa (s2.map sv) e2),(a3+937,aa (s3.map sv) e3)]++[])
   (X:=yK) (λ_ r=>bV bq r.c1 (fO (jT r1) n1)∧bV bq r.c2 (fO (jT r2) n2)∧bV bq r.c3 (fO (jT r3) n3)) (λ_=>.ok .next)
   (λr=>[(y+937,av 3),(x+937,aa [.ref (a1+937),.ref (a2+937),.ref (a3+937)] ex),(ac+937,aa [.ref (r.y1+937),.ref (r.y2+937),.ref (r.y3+937)] 3),(lc+937,ae [de (ay v b1 b2 b3).params U7 r.q (.ref (a3+937))] 1),(a1+937,aa (s1.map sv) e1),(a2+937,aa (s2.map sv) e2),(a3+937,aa (s3.map sv) e3)]++[(r.y1+937,aa (aM r.c1) r.f1),(r.y2+937,aa (aM r.c2) r.f2),(r.y3+937,aa (aM r.c3) r.f3)]++(RO r.c3++(RO r.c2++(RO r.c1++[])))):=by
  refine mc ?_ (λb tk=>by refine Bool.rec ?_ ?_ b2<;>kernel_rfl)
  refine aZ [(y+937,ai (x+937) 0),(x+937,aa [.ref (a1+937),.ref (a2+937),.ref (a3+937)] ex),(ac+937,aa [] 0),(lc+937,ae [] 0),(a1+937,aa (s1.map sv) e1),(a2+937,aa (s2.map sv) e2),(a3+937,aa (s3.map sv) e3)] [] λA R d os hb m0 g tk b outer Z F E N=>?_
  refine cf (L':=6) (hd':=none) F Z 26 0x100004101042041041 ([(a1+937,aa (s1.map sv) e1)]) ([]) ([]) (λ(sr1:fb)=>[(a1+937,aa (s1.map sv) e1)]) (λ(sr1:fb)=>[(sr1.x1+937,ap 167 (sr1.x2+937)),(sr1.x2+937,au (ay v b1 b2 b3).params sr1.k1 sr1.k2 sr1.k3 sr1.k4 sr1.t3 sr1.t4 (sr1.x3+937) .none 0 0 4),(sr1.x3+937,ae sr1.es sr1.e2)]) (λ(sr1:fb)=>GO sr1.G) (SO1 _) [4] (FL _) λ(sr1:fb)m1 kk1 g1 hs1=>?_
  intro sS
  refine da F 3 0 ?_
  intro sS
  refine aw [0,1,2,3,4,5,6] [7,8,9] ([(sr1.x1+937,ap 167 (sr1.x2+937)),(sr1.x2+937,au (ay v b1 b2 b3).params sr1.k1 sr1.k2 sr1.k3 sr1.k4 sr1.t3 sr1.t4 (sr1.x3+937) .none 0 0 4),(sr1.x3+937,ae sr1.es sr1.e2)]) [] (([(sr1.x1+937,ap 167 (sr1.x2+937)),(sr1.x2+937,au (ay v b1 b2 b3).params sr1.k1 sr1.k2 sr1.k3 sr1.k4 sr1.t3 sr1.t4 (sr1.x3+937) .none 0 0 4),(sr1.x3+937,ae sr1.es sr1.e2)]++GO sr1.G)++[]) (by rw[FV];exact FL _) ?_
  intro sS
  refine c0 (L':=7) (hd':=none) F Z N 0 0 [] ([(sr1.x1+937,ap 167 (sr1.x2+937)),(sr1.x2+937,au (ay v b1 b2 b3).params sr1.k1 sr1.k2 sr1.k3 sr1.k4 sr1.t3 sr1.t4 (sr1.x3+937) .none 0 0 4),(sr1.x3+937,ae sr1.es sr1.e2)]++GO sr1.G) ([]) (λ(q1:ie)=>[]) (λ(q1:ie)=>[(q1.y+937,aa (aM q1.acc) q1.ey)]) (λ(q1:ie)=>RO q1.acc) (RN1 _ sr1 hs1) [] (FL _) λ(q1:ie)m2 kk2 g2 hq1=>?_
  intro sS
  refine cf (L':=6) (hd':=none) F Z 35 0x1000041010420410410c30c3 ([(a2+937,aa (s2.map sv) e2)]) ([]) ((RO q1.acc++[])) (λ(sr2:fb)=>[(a2+937,aa (s2.map sv) e2)]) (λ(sr2:fb)=>[(sr2.x1+937,ap 167 (sr2.x2+937)),(sr2.x2+937,au (ay v b1 b2 b3).params sr2.k1 sr2.k2 sr2.k3 sr2.k4 sr2.t3 sr2.t4 (sr2.x3+937) .none 0 0 4),(sr2.x3+937,ae sr2.es sr2.e2)]) (λ(sr2:fb)=>GO sr2.G) (SO2 _) [5] (FL _) λ(sr2:fb)m3 kk3 g3 hs2=>?_
  intro sS
  refine da F 3 0 ?_
  intro sS
  refine aw [0,1,2,3,4,5,6,7] [8,9,10] ([(sr2.x1+937,ap 167 (sr2.x2+937)),(sr2.x2+937,au (ay v b1 b2 b3).params sr2.k1 sr2.k2 sr2.k3 sr2.k4 sr2.t3 sr2.t4 (sr2.x3+937) .none 0 0 4),(sr2.x3+937,ae sr2.es sr2.e2)]) [] (([(sr2.x1+937,ap 167 (sr2.x2+937)),(sr2.x2+937,au (ay v b1 b2 b3).params sr2.k1 sr2.k2 sr2.k3 sr2.k4 sr2.t3 sr2.t4 (sr2.x3+937) .none 0 0 4),(sr2.x3+937,ae sr2.es sr2.e2)]++GO sr2.G)++(RO q1.acc++[])) (by rw[FV];exact FL _) ?_
  intro sS
  refine c0 (L':=7) (hd':=none) F Z N 0 0 [] ([(sr2.x1+937,ap 167 (sr2.x2+937)),(sr2.x2+937,au (ay v b1 b2 b3).params sr2.k1 sr2.k2 sr2.k3 sr2.k4 sr2.t3 sr2.t4 (sr2.x3+937) .none 0 0 4),(sr2.x3+937,ae sr2.es sr2.e2)]++GO sr2.G) ((RO q1.acc++[])) (λ(q2:ie)=>[]) (λ(q2:ie)=>[(q2.y+937,aa (aM q2.acc) q2.ey)]) (λ(q2:ie)=>RO q2.acc) (RN2 _ sr2 hs2) [] (FL _) λ(q2:ie)m4 kk4 g4 hq2=>?_
  intro sS
  refine cf (L':=6) (hd':=none) F Z 35 0x1000041010420410410c30c3 ([(a3+937,aa (s3.map sv) e3)]) ([]) ((RO q2.acc++(RO q1.acc++[]))) (λ(sr3:fb)=>[(a3+937,aa (s3.map sv) e3)]) (λ(sr3:fb)=>[(sr3.x1+937,ap 167 (sr3.x2+937)),(sr3.x2+937,au (ay v b1 b2 b3).params sr3.k1 sr3.k2 sr3.k3 sr3.k4 sr3.t3 sr3.t4 (sr3.x3+937) .none 0 0 4),(sr3.x3+937,ae sr3.es sr3.e2)]) (λ(sr3:fb)=>GO sr3.G) (SO3 _) [6] (FL _) λ(sr3:fb)m5 kk5 g5 hs3=>?_
  intro sS
  refine da F 3 0 ?_
  intro sS
  refine aw [0,1,2,3,4,5,6,7,8] [9,10,11] ([(sr3.x1+937,ap 167 (sr3.x2+937)),(sr3.x2+937,au (ay v b1 b2 b3).params sr3.k1 sr3.k2 sr3.k3 sr3.k4 sr3.t3 sr3.t4 (sr3.x3+937) .none 0 0 4),(sr3.x3+937,ae sr3.es sr3.e2)]) [] (([(sr3.x1+937,ap 167 (sr3.x2+937)),(sr3.x2+937,au (ay v b1 b2 b3).params sr3.k1 sr3.k2 sr3.k3 sr3.k4 sr3.t3 sr3.t4 (sr3.x3+937) .none 0 0 4),(sr3.x3+937,ae sr3.es sr3.e2)]++GO sr3.G)++(RO q2.acc++(RO q1.acc++[]))) (by rw[FV];exact FL _) ?_
  intro sS
  refine c0 (L':=7) (hd':=none) F Z N 0 0 [] ([(sr3.x1+937,ap 167 (sr3.x2+937)),(sr3.x2+937,au (ay v b1 b2 b3).params sr3.k1 sr3.k2 sr3.k3 sr3.k4 sr3.t3 sr3.t4 (sr3.x3+937) .none 0 0 4),(sr3.x3+937,ae sr3.es sr3.e2)]++GO sr3.G) ((RO q2.acc++(RO q1.acc++[]))) (λ(q3:ie)=>[]) (λ(q3:ie)=>[(q3.y+937,aa (aM q3.acc) q3.ey)]) (λ(q3:ie)=>RO q3.acc) (RN3 _ sr3 hs3) [] (FL _) λ(q3:ie)m6 kk6 g6 hq3=>?_
  intro sS
  exact fx F E 25 0x3010420410410c30c3 [0,1,2,3,4,5,6,7,8,9] ⟨q1.y,q2.y,q3.y,q1.acc,q2.acc,q3.acc,q1.ey,q2.ey,q3.ey,tk⟩ _ (RO q3.acc++(RO q2.acc++(RO q1.acc++[]))) [] (by rw[FK (RO q3.acc++(RO q2.acc++(RO q1.acc++[])))]) rfl ⟨hq1,hq2,hq3⟩
 rwa[FK]at z
noncomputable def bD(A:List Ar):List (Nat×Nat):=A.map λx=>(x.a,x.b)
noncomputable def aY:List UInt8→List (Nat×Nat)
 |c::d::r=>(c.toNat,d.toNat)::aY r
 |_=>[]
theorem x5{cs:List UInt8}{i:Nat}{c:UInt8}(h:cs[i]?=some c)(hl:cs.length≤1000){x:Int}(hx:x=(i:Int)):Builtin.Bytes.fitsIndex x=true∧(seqIndex? x (⟨cs⟩:Array UInt8).size).bind ((⟨cs⟩:Array UInt8)[·]?)=some c:=by
 have hi:i<cs.length:=(List.getElem?_eq_some_iff.mp h).1
 subst hx
 refine⟨by unfold Builtin.Bytes.fitsIndex;simp;lia,?_⟩
 have e1:seqIndex? (i:Int) (⟨cs⟩:Array UInt8).size=some i:=by
  unfold seqIndex?
  have e:(⟨cs⟩:Array UInt8).size=cs.length:=rfl
  rw[e]
  simp only[show¬((i:Nat):Int)<0 by lia,if_false]
  simp
  lia
 rw[e1]
 simpa using h
theorem sV(A:List Ar)(a:Ar):([aO a]++A.map aO).Perm ([]++(A++[a]).map aO):=by
 rw[FM]
 exact List.perm_append_comm (l₁:=[aO a]) (l₂:=A.map aO)
noncomputable abbrev fQ(P:Params):Option (Tok×Value)→List DictEntry
 |none=>[]
 |some p=>[de P (u [107]) p.1 p.2]
structure Cs where
 k:Nat
 A:List Ar
 ea:Nat
 ec:Nat
 o:Option (Tok×Value)
structure k7 where
 k:Nat
 A:List Ar
 ea:Nat
 ec:Nat
 o:Tok×Value
theorem wb{w:World}{cs:List UInt8}{y ac lc lo t1:Nat}(hl:cs.length≤1000):∀(m i:Nat)(A:List Ar)(o:Option (Tok×Value))(ea ec:Nat),(cs.drop i).length=2*m→A.length+m≤100→
  Spec w 1 none (sg Code.compLoop gq y ac (pd w.params gq lo lc)) ([(y+937,bP (i:Nat) (m:Nat) (2:Nat)),(ac+937,aa (A.map bT) ea),(lc+937,ae (fQ w.params o) ec),(lo+1+937,aC (some (.bytes ⟨cs⟩ t1)))]++A.map aO)
   (X:=Cs) (λ_ r=>bD r.A=bD A++aY (cs.drop i)∧((o.isSome=true∨m≠0)→r.o.isSome=true)) (λ_=>.ok .next) (λr=>[(y+937,bP (r.k:Nat) (0:Nat) (2:Nat)),(ac+937,aa (r.A.map bT) r.ea),(lc+937,ae (fQ w.params r.o) r.ec),(lo+1+937,aC (some (.bytes ⟨cs⟩ t1)))]++r.A.map aO):=by
 intro m
 induction m with
 |zero =>
  intro i A o ea ec hd ha
  have h0:cs.drop i=[]:=List.length_eq_zero_iff.mp (by lia)
  rw[h0]
  refine aA _ _ λA' R d os hb m0 g tk b Z F E=>?_
  exact fx F E 14 6459494465 [0,1,2,3] ⟨i,A,ea,ec,o⟩ _ (A.map aO) [] (by rw[FK]) rfl ⟨(FK _).symm,λq=>q.elim id λz=>absurd rfl z⟩
 |succ m ih =>
  intro i A o ea ec hd ha
  obtain⟨c,d',r,hcd⟩:∃c d r,cs.drop i=c::d::r:=by
   match hh:cs.drop i,hd with
   |c::d::r,_=>exact⟨c,d,r,rfl⟩
   |[_],h=>simp only[FT,List.length_nil]at h;lia
   |[],h=>simp only[List.length_nil]at h;lia
  obtain⟨hc0,hdr⟩:=aN hcd
  obtain⟨hd0,hdr2⟩:=aN hdr
  obtain⟨hfitc,hgetc⟩:=x5 hc0 hl (x:=(i:Int)) rfl
  obtain⟨hfitd,hgetd⟩:=x5 hd0 hl (x:=(i:Int)+1) (by lia)
  have hrs:(A.map bT).length≤sizeLine:=by rw[FQ,sizeLine_eq];lia
  have hr2:cs.drop (i+2)=r:=hdr2
  have J:∀(a:Ar),a.a=c.toNat→a.b=d'.toNat→∀(o:Option (Tok×Value))(ea ec:Nat),Spec w 1 none (sg Code.compLoop gq y ac (pd w.params gq lo lc)) ([(y+937,bP (i+2:Nat) (m:Nat) (2:Nat)),(ac+937,aa (A.map bT++[.ref (a.r+937)]) ea),(lc+937,ae (fQ w.params o) ec),(lo+1+937,aC (some (.bytes ⟨cs⟩ t1)))]++(A++[a]).map aO)
   (X:=Cs) (λ_ r=>bD r.A=bD A++aY (cs.drop i)∧((o.isSome=true∨m≠0)→r.o.isSome=true)) (λ_=>.ok .next) (λr=>[(y+937,bP (r.k:Nat) (0:Nat) (2:Nat)),(ac+937,aa (r.A.map bT) r.ea),(lc+937,ae (fQ w.params r.o) r.ec),(lo+1+937,aC (some (.bytes ⟨cs⟩ t1)))]++r.A.map aO):=λa e1 e2 o ea ec=>by
   have z:=ih (i+2) (A++[a]) o ea ec (by rw[hr2];have:=hd;rw[hcd]at this;simp only[FT]at this;lia) (by rw[FZ];simp only[FT,List.length_nil];lia)
   have em:(A++[a]).map bT=A.map bT++[.ref (a.r+937)]:=FM
   have ep:bD (A++[a])++aY (cs.drop (i+2))=bD A++aY (cs.drop i):=by
    rw[hcd,hr2,aY]
    unfold bD
    rw[FM,FV,←e1,←e2];rfl
   rw[em,ep]at z
   exact z
  clear ih
  refine aA _ _ λA' R d os hb m0 g tk b Z F E=>?_
  rcases o with _|⟨q1,z1⟩
  ·
   refine cx (L':=0) (hd':=none) F Z 2 1 (cy (y:=y) (i:=i) (m:=m) (st:=2)) [0] λt m1 kk1 g1 _=>?_
   intro sS
   refine cx (L':=0) (hd':=none) F Z 13 803011 (cr (b:=⟨cs⟩) (i:=(i:Int)) (t:=t1) (v:=t+0) (c:=c) hfitc hgetc) [] λtc m2 kk2 g2 _=>?_
   intro sS
   refine cx (L':=0) (hd':=none) F Z 11 196 (cr (b:=⟨cs⟩) (i:=(i:Int)+1) (t:=t1) (v:=kk2+1) (c:=d') hfitd hgetd) [] λtd m3 kk3 g3 _=>?_
   intro sS
   refine cx (L':=0) (hd':=none) F Z 1 0 (af (x:=ac) (ep:=ea) (v:=.ref (m3+937)) hrs) [1] λ_ m4 kk4 g4 _=>?_
   intro sS
   refine da F 0 0 ?_
   intro sS
   refine aw [0,1,2,3] [4] [aO ⟨m3,c.toNat,d'.toNat,tc,td⟩] [] ((A++[(⟨m3,c.toNat,d'.toNat,tc,td⟩:Ar)]).map aO) (sV A _) ?_
   intro sS
   exact ax F E Z 0 0 _ ((A++[(⟨m3,c.toNat,d'.toNat,tc,td⟩:Ar)]).map aO) [] (J ⟨m3,c.toNat,d'.toNat,tc,td⟩ rfl rfl (some (kk1,.int (i:Nat) t)) (ea+1) (ec+1)) [0,1,2,3] (by rw[FK]) (λ_ x _ hC=>⟨x,⟨hC.1,λ_=>hC.2 (.inl rfl)⟩,rfl,λ_ h=>h,id⟩)
  ·
   refine cx (L':=0) (hd':=none) F Z 2 1 (cy (y:=y) (i:=i) (m:=m) (st:=2)) [0] λt m1 kk1 g1 _=>?_
   intro sS
   refine cx (L':=0) (hd':=none) F Z 13 803011 (cr (b:=⟨cs⟩) (i:=(i:Int)) (t:=t1) (v:=t+0) (c:=c) hfitc hgetc) [] λtc m2 kk2 g2 _=>?_
   intro sS
   refine cx (L':=0) (hd':=none) F Z 11 196 (cr (b:=⟨cs⟩) (i:=(i:Int)+1) (t:=t1) (v:=kk2+1) (c:=d') hfitd hgetd) [] λtd m3 kk3 g3 _=>?_
   intro sS
   refine cx (L':=0) (hd':=none) F Z 1 0 (af (x:=ac) (ep:=ea) (v:=.ref (m3+937)) hrs) [1] λ_ m4 kk4 g4 _=>?_
   intro sS
   refine da F 0 0 ?_
   intro sS
   refine aw [0,1,2,3] [4] [aO ⟨m3,c.toNat,d'.toNat,tc,td⟩] [] ((A++[(⟨m3,c.toNat,d'.toNat,tc,td⟩:Ar)]).map aO) (sV A _) ?_
   intro sS
   exact ax F E Z 0 0 _ ((A++[(⟨m3,c.toNat,d'.toNat,tc,td⟩:Ar)]).map aO) [] (J ⟨m3,c.toNat,d'.toNat,tc,td⟩ rfl rfl (some (q1,.int (i:Nat) t)) (ea+1) ec) [0,1,2,3] (by rw[FK]) (λ_ x _ hC=>⟨x,⟨hC.1,λ_=>hC.2 (.inl rfl)⟩,rfl,λ_ h=>h,id⟩)
theorem ti{w:World}{cs:List UInt8}{m y ac lc lo t1:Nat}(hl:cs.length≤1000)(hm:cs.length=2*m)(hm0:m≠0)(hm9:m≤100):
  Spec w 1 none (sg Code.compStart gq y ac (pd w.params gq lo lc)) ([(y+937,bP (0:Nat) (m:Nat) (2:Nat)),(ac+937,aa ([].map bT) 0),(lc+937,ae (fQ w.params none) 0),(lo+1+937,aC (some (.bytes ⟨cs⟩ t1)))]++[].map aO)
   (X:=k7) (λ_ r=>bD r.A=aY cs) (λ_=>.ok .next) (λr=>[(y+937,bP (r.k:Nat) (0:Nat) (2:Nat)),(ac+937,aa (r.A.map bT) r.ea),(lc+937,ae (fQ w.params (some r.o)) r.ec),(lo+1+937,aC (some (.bytes ⟨cs⟩ t1)))]++r.A.map aO):=by
 have S:=wb (w:=w) (cs:=cs) (y:=y) (ac:=ac) (lc:=lc) (lo:=lo) (t1:=t1) hl m 0 [] none 0 0 (by rw[List.drop_zero];exact hm) (by rw[List.length_nil];lia)
 rw[List.drop_zero]at S
 obtain⟨v,b1,b2,b3,rfl⟩:=al w
 have z:=bC (C:=λr:Cs=>bD r.A=bD []++aY cs∧(((none:Option (Tok×Value)).isSome=true∨m≠0)→r.o.isSome=true)) (o:=bP (0:Nat) (m:Nat) (2:Nat)) S (λb tk=>by refine Bool.rec ?_ ?_ b2<;>kernel_rfl)
 refine z.convP (Nat.le_refl _) (FL _) λn r hC=>?_
 obtain⟨k,A,ea,ec,o⟩:=r
 obtain⟨oo,rfl⟩:=Option.isSome_iff_exists.mp (hC.2 (.inr hm0))
 exact⟨⟨k,A,ea,ec,oo⟩,hC.1,rfl,FL _⟩
structure Cw where
 i:Nat
 A:List Ar
 ea:Nat
 ec:Nat
 o:Option ((Tok×Value)×(Tok×Value))
structure sR where
 i:Nat
 A:List Ar
 ea:Nat
 ec:Nat
 o:(Tok×Value)×(Tok×Value)
noncomputable abbrev yz(P:Params):Option ((Tok×Value)×(Tok×Value))→List DictEntry
 |none=>[]
 |some p=>[de P yQ p.1.1 p.1.2,de P CM p.2.1 p.2.2]
theorem xA{w:World}{x y ac lo lc ep:Nat}{ars:List Ar}:∀(rem:List Ar)(i:Nat)(A:List Ar)(o:Option ((Tok×Value)×(Tok×Value)))(ea ec:Nat),ars.drop i=rem→A.length+rem.length≤100→
  Spec w 1 none (sg Code.compLoop me y ac (fL me (fW w.params lo) lc)) ([(y+937,ai (x+937) i),(x+937,aa (ars.map bT) ep),(ac+937,aa (A.map bT) ea),(lc+937,ae (yz w.params o) ec)]++(ars.map aO++A.map aO))
   (X:=Cw) (λ_ r=>bD r.A=bD A++(bD rem).map Prod.swap∧((o.isSome=true∨rem≠[])→r.o.isSome=true)) (λ_=>.ok .next) (λr=>[(y+937,av r.i),(x+937,aa (ars.map bT) ep),(ac+937,aa (r.A.map bT) r.ea),(lc+937,ae (yz w.params r.o) r.ec)]++(ars.map aO++r.A.map aO)):=by
 intro rem
 induction rem with
 |nil =>
  intro i A o ea ec hr hl
  have hx:(ars.map bT)[i]?=none:=by
   rw[List.getElem?_eq_none]
   rw[FQ]
   exact List.drop_eq_nil_iff.mp hr
  refine aA _ _ λA' R d os hb m0 g tk b Z F E=>?_
  refine cx (L':=0) (hd':=none) F Z 2 1 (a7 (y:=y) (x:=x) (ep:=ep) (i:=i) hx) [0,1] λnn m1 kk1 g1 _=>?_
  intro sS
  exact fx F E 1 6 [0,1,2,3] ⟨i,A,ea,ec,o⟩ _ (ars.map aO++A.map aO) [] (by rw[FK]) rfl ⟨(FK _).symm,λq=>q.elim id λz=>absurd rfl z⟩
 |cons ar rem ih =>
  intro i A o ea ec hr hl
  obtain⟨hx0,hr'⟩:=aN hr
  obtain⟨AR,hpu0⟩:=ig hx0
  have hpu:(ars.map aO++A.map aO).Perm ([aO ar]++(AR++A.map aO)):=by
   rw[←FV]
   exact hpu0.append_right _
  have hpb:∀n:Ar,([aO ar,aO n]++(AR++A.map aO)).Perm ([]++(ars.map aO++(A++[n]).map aO)):=λn=>by
   rw[FM]
   show([aO ar]++([aO n]++(AR++A.map aO))).Perm (ars.map aO++(A.map aO++[aO n]))
   refine(List.Perm.append_left [aO ar] (List.perm_append_comm (l₁:=[aO n]))).trans ?_
   rw[←FV,←FV,←FV]
   exact(hpu0.symm.append_right _).append_right _
  have hx:(ars.map bT)[i]?=some (.ref (ar.r+937)):=by rw[List.getElem?_map,hx0];rfl
  rw[FT]at hl
  have hrs:(A.map bT).length≤sizeLine:=by rw[FQ,sizeLine_eq];lia
  have J:∀(a:Ar),a.a=ar.b→a.b=ar.a→∀(o:Option ((Tok×Value)×(Tok×Value)))(ea ec:Nat),Spec w 1 none (sg Code.compLoop me y ac (fL me (fW w.params lo) lc)) ([(y+937,ai (x+937) (i+1)),(x+937,aa (ars.map bT) ep),(ac+937,aa (A.map bT++[.ref (a.r+937)]) ea),(lc+937,ae (yz w.params o) ec)]++(ars.map aO++(A++[a]).map aO))
   (X:=Cw) (λ_ r=>bD r.A=bD A++(bD (ar::rem)).map Prod.swap∧((o.isSome=true∨rem≠[])→r.o.isSome=true)) (λ_=>.ok .next) (λr=>[(y+937,av r.i),(x+937,aa (ars.map bT) ep),(ac+937,aa (r.A.map bT) r.ea),(lc+937,ae (yz w.params r.o) r.ec)]++(ars.map aO++r.A.map aO)):=λa e1 e2 o ea ec=>by
   have z:=ih (i+1) (A++[a]) o ea ec hr' (by rw[FZ];simp only[FT,List.length_nil];lia)
   have em:(A++[a]).map bT=A.map bT++[.ref (a.r+937)]:=FM
   have ep:bD (A++[a])++(bD rem).map Prod.swap=bD A++(bD (ar::rem)).map Prod.swap:=by
    unfold bD
    rw[FM,FV,FR,FR,FR,e1,e2];rfl
   rw[em,ep]at z
   exact z
  clear ih
  refine aA _ _ λA' R d os hb m0 g tk b Z F E=>?_
  rcases o with _|⟨⟨q1,z1⟩,⟨q2,z2⟩⟩
  ·
   refine cx (L':=0) (hd':=none) F Z 2 1 (am (y:=y) (x:=x) (ep:=ep) (i:=i) hx) [0,1] λ_ m1 kk1 g1 _=>?_
   intro sS
   refine bn [aO ar] _ hpu ?_
   refine cx (L':=0) (hd':=none) F Z 67 0x410410410818614618618618518618618614618618617f145141 (af (x:=ac) (ep:=ea) (v:=.ref ((m1+3)+937)) hrs) [2] λ_ m2 kk2 g2 _=>?_
   intro sS
   refine da F 0 0 ?_
   intro sS
   refine aw [0,1,2,3] [4,8] [aO ar,aO ⟨m1+3,ar.b,ar.a,ar.v,ar.t⟩] [] (ars.map aO++(A++[(⟨m1+3,ar.b,ar.a,ar.v,ar.t⟩:Ar)]).map aO) (hpb _) ?_
   intro sS
   exact ax F E Z 0 0 _ (ars.map aO++(A++[(⟨m1+3,ar.b,ar.a,ar.v,ar.t⟩:Ar)]).map aO) [] (J ⟨m1+3,ar.b,ar.a,ar.v,ar.t⟩ rfl rfl (some ((kk1,.int (ar.a:Nat) ar.t),((kk1+1),.int (ar.b:Nat) ar.v))) (ea+1) (ec+2)) [0,1,2,3] (by rw[FK]) (λ_ x _ hC=>⟨x,⟨hC.1,λ_=>hC.2 (.inl rfl)⟩,rfl,λ_ h=>h,id⟩)
  ·
   refine cx (L':=0) (hd':=none) F Z 2 1 (am (y:=y) (x:=x) (ep:=ep) (i:=i) hx) [0,1] λ_ m1 kk1 g1 _=>?_
   intro sS
   refine bn [aO ar] _ hpu ?_
   refine cx (L':=0) (hd':=none) F Z 67 0x410410410818614618618618518618618614618618617f145141 (af (x:=ac) (ep:=ea) (v:=.ref ((m1+3)+937)) hrs) [2] λ_ m2 kk2 g2 _=>?_
   intro sS
   refine da F 0 0 ?_
   intro sS
   refine aw [0,1,2,3] [4,8] [aO ar,aO ⟨m1+3,ar.b,ar.a,ar.v,ar.t⟩] [] (ars.map aO++(A++[(⟨m1+3,ar.b,ar.a,ar.v,ar.t⟩:Ar)]).map aO) (hpb _) ?_
   intro sS
   exact ax F E Z 0 0 _ (ars.map aO++(A++[(⟨m1+3,ar.b,ar.a,ar.v,ar.t⟩:Ar)]).map aO) [] (J ⟨m1+3,ar.b,ar.a,ar.v,ar.t⟩ rfl rfl (some ((q1,.int (ar.a:Nat) ar.t),(q2,.int (ar.b:Nat) ar.v))) (ea+1) ec) [0,1,2,3] (by rw[FK]) (λ_ x _ hC=>⟨x,⟨hC.1,λ_=>hC.2 (.inl rfl)⟩,rfl,λ_ h=>h,id⟩)
theorem vq{w:World}{x y ac lo lc ep:Nat}{ars:List Ar}(hl:ars.length≤100)(hne:ars≠[]):
  Spec w 1 none (sg Code.compStart me y ac (fL me (fW w.params lo) lc)) ([(y+937,ai (x+937) 0),(x+937,aa (ars.map bT) ep),(ac+937,aa ([].map bT) 0),(lc+937,ae (yz w.params none) 0)]++(ars.map aO++[].map aO))
   (X:=sR) (λ_ r=>bD r.A=(bD ars).map Prod.swap) (λ_=>.ok .next) (λr=>[(y+937,av r.i),(x+937,aa (ars.map bT) ep),(ac+937,aa (r.A.map bT) r.ea),(lc+937,ae (yz w.params (some r.o)) r.ec)]++(ars.map aO++r.A.map aO)):=by
 have S:=xA (w:=w) (x:=x) (y:=y) (ac:=ac) (lo:=lo) (lc:=lc) (ep:=ep) ars 0 [] none 0 0 rfl (by rw[List.length_nil];lia)
 obtain⟨v,b1,b2,b3,rfl⟩:=al w
 have z:=bC (C:=λr:Cw=>bD r.A=bD []++(bD ars).map Prod.swap∧(((none:Option ((Tok×Value)×(Tok×Value))).isSome=true∨ars≠[])→r.o.isSome=true)) (o:=ai (x+937) 0) S (λb tk=>by refine Bool.rec ?_ ?_ b2<;>kernel_rfl)
 refine z.convP (Nat.le_refl _) (FL _) λn r hC=>?_
 obtain⟨i,A,ea,ec,o⟩:=r
 obtain⟨oo,rfl⟩:=Option.isSome_iff_exists.mp (hC.2 (.inr hne))
 exact⟨⟨i,A,ea,ec,oo⟩,hC.1,rfl,FL _⟩
noncomputable abbrev vW(x:Ar):List NV:=[(x.b,x.v),(x.a,x.t)]
noncomputable abbrev El(P:Params)(q1:Tok)(z1:Value)(q2:Tok)(z2:Value)(o:Option (Tok×Value)):List DictEntry:=de P yQ q1 z1::de P CM q2 z2::match o with|none=>[]|some p=>[de P (u [111,99,116,101,116]) p.1 p.2]
theorem yC{w:World}{ar:Ar}{y zz ac lo lc ea ec q1 q2:Nat}{z1 z2:Value}{ws:List NV}(o:Option (Tok×Value))(hl:ws.length≤100):
  Spec w 1 none (.compStart gE 1 (.ref (y+937)) (.ref (ac+937)) (fL gE (fW w.params lo) lc)) ([(y+937,ai (zz+937) 0)]++[(zz+937,aa [.int (ar.b:Nat) ar.v,.int (ar.a:Nat) ar.t] 0),(ac+937,aa (ws.map nv) ea),(lc+937,ae (El w.params q1 z1 q2 z2 o) ec)])
   (X:=Tok×Nat) (λ_ _=>True) (λ_=>.ok .next) (λp=>[(y+937,av 2),(zz+937,aa [.int (ar.b:Nat) ar.v,.int (ar.a:Nat) ar.t] 0),(ac+937,aa ((ws++vW ar).map nv) (ea+1+1)),(lc+937,ae (El w.params q1 z1 q2 z2 (some (p.1,.int (ar.a:Nat) ar.t))) p.2)]):=by
 have hrs:(ws.map nv).length≤sizeLine:=by rw[FQ,sizeLine_eq];lia
 have hrs2:(ws.map nv++[Value.int (ar.b:Nat) ar.v]).length≤sizeLine:=by rw[FZ,FQ,sizeLine_eq];simp only[FT,List.length_nil];lia
 have e3:(ws++vW ar).map nv=(ws.map nv++[Value.int (ar.b:Nat) ar.v])++[Value.int (ar.a:Nat) ar.t]:=by
  rw[FM,FV];rfl
 rw[e3]
 obtain⟨v,b1,b2,b3,rfl⟩:=al w
 refine bC (C:=λ_=>True) ?_ (λb tk=>by refine Bool.rec ?_ ?_ b2<;>kernel_rfl)
 refine ak λA R d os hb m0 g tk b Z F E=>?_
 rcases o with _|⟨q3,z3⟩
 ·
  refine cx (L':=0) (hd':=none) F Z 20 73201155957854273 (af (x:=ac) (ep:=ea) (v:=.int (ar.b:Nat) ar.v) hrs) [2] λ_ m1 kk1 g1 _=>?_
  intro sS
  refine cx (L':=0) (hd':=none) F Z 21 73201155957854273 (af (x:=ac) (ep:=ea+1) (v:=.int (ar.a:Nat) ar.t) hrs2) [2] λ_ m2 kk2 g2 _=>?_
  intro sS
  exact fx F E 17 26458106105921 [0,1,2,3] (tk,ec+1) _ [] [] (FL _) (FK _).symm trivial
 ·
  refine cx (L':=0) (hd':=none) F Z 20 73201155957854273 (af (x:=ac) (ep:=ea) (v:=.int (ar.b:Nat) ar.v) hrs) [2] λ_ m1 kk1 g1 _=>?_
  intro sS
  refine cx (L':=0) (hd':=none) F Z 21 73201155957854273 (af (x:=ac) (ep:=ea+1) (v:=.int (ar.a:Nat) ar.t) hrs2) [2] λ_ m2 kk2 g2 _=>?_
  intro sS
  exact fx F E 17 26458106105921 [0,1,2,3] (q3,ec) _ [] [] (FL _) (FK _).symm trivial
structure EB where
 i:Nat
 ea:Nat
 ec:Nat
 o:Option (((Tok×Value)×(Tok×Value))×(Tok×Value))
structure As where
 i:Nat
 ea:Nat
 ec:Nat
 o:((Tok×Value)×(Tok×Value))×(Tok×Value)
noncomputable abbrev Aj(P:Params):Option (((Tok×Value)×(Tok×Value))×(Tok×Value))→List DictEntry
 |none=>[]
 |some p=>El P p.1.1.1 p.1.1.2 p.1.2.1 p.1.2.2 (some p.2)
theorem xO{w:World}{x y ac lo lc ep:Nat}{ars:List Ar}:∀(rem:List Ar)(i:Nat)(ws:List NV)(o:Option (((Tok×Value)×(Tok×Value))×(Tok×Value)))(ea ec:Nat),ars.drop i=rem→ws.length+2*rem.length≤100→
  Spec w 2 none (sg Code.compLoop gE y ac (fL gE (fW w.params lo) lc)) ([(y+937,ai (x+937) i),(x+937,aa (ars.map bT) ep),(ac+937,aa (ws.map nv) ea),(lc+937,ae (Aj w.params o) ec)]++ars.map aO)
   (X:=EB) (λ_ r=>(o.isSome=true∨rem≠[])→r.o.isSome=true) (λ_=>.ok .next) (λr=>[(y+937,av r.i),(x+937,aa (ars.map bT) ep),(ac+937,aa ((ws++rem.flatMap vW).map nv) r.ea),(lc+937,ae (Aj w.params r.o) r.ec)]++ars.map aO):=by
 intro rem
 induction rem with
 |nil =>
  intro i ws o ea ec hr hl
  have hx:(ars.map bT)[i]?=none:=by
   rw[List.getElem?_eq_none]
   rw[FQ]
   exact List.drop_eq_nil_iff.mp hr
  rw[List.flatMap_nil,FK]
  refine aA _ _ λA R d os hb m0 g tk b Z F E=>?_
  refine cx (L':=0) (hd':=none) F Z 2 1 (a7 (y:=y) (x:=x) (ep:=ep) (i:=i) hx) [0,1] λnn m1 kk1 g1 _=>?_
  intro sS
  exact fx F E 1 6 [0,1,2,3] ⟨i,ea,ec,o⟩ _ (ars.map aO) [] (by rw[FK]) rfl (λq=>q.elim id λz=>absurd rfl z)
 |cons ar rem ih =>
  intro i ws o ea ec hr hl
  obtain⟨hx0,hr'⟩:=aN hr
  obtain⟨AR,hpu⟩:=ig hx0
  have hx:(ars.map bT)[i]?=some (.ref (ar.r+937)):=by rw[List.getElem?_map,hx0];rfl
  rw[FT]at hl
  have J:=λ(o:Option (((Tok×Value)×(Tok×Value))×(Tok×Value)))(ea ec:Nat)=>ih (i+1) (ws++vW ar) o ea ec hr' (by rw[FZ];simp only[FT,List.length_nil];lia)
  rw[FV]at J
  clear ih
  refine aA _ _ λA R d os hb m0 g tk b Z F E=>?_
  rcases o with _|⟨⟨⟨q1,z1⟩,⟨q2,z2⟩⟩,⟨q3,z3⟩⟩
  ·
   refine cx (L':=0) (hd':=none) F Z 2 1 (am (y:=y) (x:=x) (ep:=ep) (i:=i) hx) [0,1] λ_ m1 kk1 g1 _=>?_
   intro sS
   refine bn [aO ar] _ hpu ?_
   refine cx (L':=1) (hd':=none) F Z 77 0x289fc924410410410818614618618618518618618614618618617f145141 (yC (ar:=ar) (y:=m1+4) (zz:=m1+3) (ac:=ac) (lo:=lo) (lc:=lc) (ea:=ea) (ec:=ec+2) (q1:=kk1) (z1:=.int (ar.a:Nat) ar.t) (q2:=(kk1+1)) (z2:=.int (ar.b:Nat) ar.v) (ws:=ws) none (by lia)) [9,8,2,3] λ(p:Tok×Nat)m2 kk2 g2 _=>?_
   intro sS
   refine da F 0 0 ?_
   intro sS
   refine aw [0,1,2,3] [4] [aO ar] [] (ars.map aO) hpu.symm ?_
   intro sS
   exact ax F E Z 0 0 _ (ars.map aO) [] (J (some (((kk1,.int (ar.a:Nat) ar.t),((kk1+1),.int (ar.b:Nat) ar.v)),(p.1,.int (ar.a:Nat) ar.t))) (ea+1+1) p.2) [0,1,2,3] (by rw[FK]) (λ_ x _ hC=>⟨x,λ_=>hC (.inl rfl),rfl,λ_ h=>h,id⟩)
  ·
   refine cx (L':=0) (hd':=none) F Z 2 1 (am (y:=y) (x:=x) (ep:=ep) (i:=i) hx) [0,1] λ_ m1 kk1 g1 _=>?_
   intro sS
   refine bn [aO ar] _ hpu ?_
   refine cx (L':=1) (hd':=none) F Z 77 0x289fc924410410410818614618618618518618618614618618617f145141 (yC (ar:=ar) (y:=m1+4) (zz:=m1+3) (ac:=ac) (lo:=lo) (lc:=lc) (ea:=ea) (ec:=ec) (q1:=q1) (z1:=.int (ar.a:Nat) ar.t) (q2:=q2) (z2:=.int (ar.b:Nat) ar.v) (ws:=ws) (some (q3,z3)) (by lia)) [9,8,2,3] λ(p:Tok×Nat)m2 kk2 g2 _=>?_
   intro sS
   refine da F 0 0 ?_
   intro sS
   refine aw [0,1,2,3] [4] [aO ar] [] (ars.map aO) hpu.symm ?_
   intro sS
   exact ax F E Z 0 0 _ (ars.map aO) [] (J (some (((q1,.int (ar.a:Nat) ar.t),(q2,.int (ar.b:Nat) ar.v)),(p.1,.int (ar.a:Nat) ar.t))) (ea+1+1) p.2) [0,1,2,3] (by rw[FK]) (λ_ x _ hC=>⟨x,λ_=>hC (.inl rfl),rfl,λ_ h=>h,id⟩)
theorem vL{w:World}{x y ac lo lc ep:Nat}{ars:List Ar}(hl:2*ars.length≤100)(hne:ars≠[]):
  Spec w 2 none (sg Code.compStart gE y ac (fL gE (fW w.params lo) lc)) ([(y+937,ai (x+937) 0),(x+937,aa (ars.map bT) ep),(ac+937,aa ([].map nv) 0),(lc+937,ae (Aj w.params none) 0)]++ars.map aO)
   (X:=As) (λ_ _=>True) (λ_=>.ok .next) (λr=>[(y+937,av r.i),(x+937,aa (ars.map bT) ep),(ac+937,aa ((ars.flatMap vW).map nv) r.ea),(lc+937,ae (Aj w.params (some r.o)) r.ec)]++ars.map aO):=by
 have S:=xO (w:=w) (x:=x) (y:=y) (ac:=ac) (lo:=lo) (lc:=lc) (ep:=ep) ars 0 [] none 0 0 rfl (by rw[List.length_nil];lia)
 obtain⟨v,b1,b2,b3,rfl⟩:=al w
 have z:=bC (C:=λr:EB=>((none:Option (((Tok×Value)×(Tok×Value))×(Tok×Value))).isSome=true∨ars≠[])→r.o.isSome=true) (o:=ai (x+937) 0) S (λb tk=>by refine Bool.rec ?_ ?_ b2<;>kernel_rfl)
 refine z.convP (Nat.le_refl _) (FL _) λn r hC=>?_
 obtain⟨i,ea,ec,o⟩:=r
 obtain⟨oo,rfl⟩:=Option.isSome_iff_exists.mp (hC (.inr hne))
 exact⟨⟨i,ea,ec,oo⟩,trivial,rfl,FL _⟩
section
noncomputable abbrev eM(is:List Nat):Str:=Txt.join U1 (is.map qn)
structure z8 where
 t1:Tok
 t2:Tok
 t3:Tok
 q:Tok
 cc:Nat
section
variable{w:World}{y x ac lo lc ex a1 a2 a3 e1 e2 e3:Nat}{i1 i2 i3:List Nat}{s1 s2 s3:List SV}
theorem wO(hp1:s1.map (·.1)=i1.map nm)(hp2:s2.map (·.1)=i2.map nm)(hp3:s3.map (·.1)=i3.map nm)(hi1:∀i∈i1,i<6)(hi2:∀i∈i2,i<6)(hi3:∀i∈i3,i<6)(hl1:i1.length≤18)(hl2:i2.length≤18)(hl3:i3.length≤18):
  Spec w 4 none (pP Code.compStart w.params zi y ac lo lc) ([(y+937,ai (x+937) 0)]++[(x+937,aa [.ref (a1+937),.ref (a2+937),.ref (a3+937)] ex),(ac+937,aa [] 0),(lc+937,ae [] 0),(a1+937,aa (s1.map sv) e1),(a2+937,aa (s2.map sv) e2),(a3+937,aa (s3.map sv) e3),(873,oH w.params)])
   (X:=z8) (λ_ _=>True) (λ_=>.ok .next)
   (λr=>[(y+937,av 3),(x+937,aa [.ref (a1+937),.ref (a2+937),.ref (a3+937)] ex),(ac+937,aa [.str (eM i1) r.t1,.str (eM i2) r.t2,.str (eM i3) r.t3] 3),(lc+937,ae [de w.params U7 r.q (.ref (a3+937))] 1),(a1+937,aa (s1.map sv) e1),(a2+937,aa (s2.map sv) e2),(a3+937,aa (s3.map sv) e3),(873,nG (r.cc+937))]++[]):=by
 obtain⟨v,b1,b2,b3,rfl⟩:=al w
 refine bC (C:=λ_=>True) ?_ (λb tk=>by refine Bool.rec ?_ ?_ b2<;>kernel_rfl)
 refine ak λA R d os hb m0 g tk b Z F E=>?_
 refine cx (L':=3) (hd':=none) F Z 24 0x4004101042041041 (wG (x:=a1) (ep:=e1) hp1 hi1 hl1) [7,4] λ(z1:Nat×Nat)m1 kk1 g1 _=>?_
 intro sS
 refine cx (L':=3) (hd':=none) F Z 33 0x40041010420410410c30c3 (qK (cc:=z1.1) (x:=a2) (ep:=e2) hp2 hi2 hl2) [7,5] λ(z2:Nat×Nat)m2 kk2 g2 _=>?_
 intro sS
 refine cx (L':=3) (hd':=none) F Z 33 0x40041010420410410c30c3 (qK (cc:=z2.1) (x:=a3) (ep:=e3) hp3 hi3 hl3) [7,6] λ(z3:Nat×Nat)m3 kk3 g3 _=>?_
 intro sS
 exact fx F E 25 0x2810420410410c30c3 [0,1,2,3,4,5,6,7] ⟨z1.2,z2.2,z3.2,tk,z3.1⟩ _ [] [] (FL _) (FK _).symm trivial
theorem ug(hp1:s1.map (·.1)=i1.map nm)(hp2:s2.map (·.1)=i2.map nm)(hp3:s3.map (·.1)=i3.map nm)(hi1:∀i∈i1,i<6)(hi2:∀i∈i2,i<6)(hi3:∀i∈i3,i<6)(hl1:i1.length≤18)(hl2:i2.length≤18)(hl3:i3.length≤18):
  Spec w 4 none (pP Code.compStart w.params wN y ac lo lc) ([(y+937,ai (x+937) 0)]++[(x+937,aa [.ref (a1+937),.ref (a2+937),.ref (a3+937)] ex),(ac+937,aa [] 0),(lc+937,ae [] 0),(a1+937,aa (s1.map sv) e1),(a2+937,aa (s2.map sv) e2),(a3+937,aa (s3.map sv) e3)])
   (X:=z8) (λ_ _=>True) (λ_=>.ok .next)
   (λr=>[(y+937,av 3),(x+937,aa [.ref (a1+937),.ref (a2+937),.ref (a3+937)] ex),(ac+937,aa [.str (eM i1) r.t1,.str (eM i2) r.t2,.str (eM i3) r.t3] 3),(lc+937,ae [de w.params U7 r.q (.ref (a3+937))] 1),(a1+937,aa (s1.map sv) e1),(a2+937,aa (s2.map sv) e2),(a3+937,aa (s3.map sv) e3)]++[]):=by
 obtain⟨v,b1,b2,b3,rfl⟩:=al w
 refine bC (C:=λ_=>True) ?_ (λb tk=>by refine Bool.rec ?_ ?_ b2<;>kernel_rfl)
 refine ak λA R d os hb m0 g tk b Z F E=>?_
 refine cx (L':=3) (hd':=none) F Z 24 0x4004101042041041 (kn (x:=a1) (ep:=e1) hp1 hi1 hl1) [4] λz1 m1 kk1 g1 _=>?_
 intro sS
 refine cx (L':=3) (hd':=none) F Z 33 0x40041010420410410c30c3 (kn (x:=a2) (ep:=e2) hp2 hi2 hl2) [5] λz2 m2 kk2 g2 _=>?_
 intro sS
 refine cx (L':=3) (hd':=none) F Z 33 0x40041010420410410c30c3 (kn (x:=a3) (ep:=e3) hp3 hi3 hl3) [6] λz3 m3 kk3 g3 _=>?_
 intro sS
 exact fx F E 25 0x2410420410410c30c3 [0,1,2,3,4,5,6] ⟨z1,z2,z3,tk,0⟩ _ [] [] (FL _) (FK _).symm trivial
end
end
noncomputable def dX:List Nat→List (Nat×Nat)
 |a::b::r=>(a,b)::dX r
 |_=>[]
noncomputable def hV:List Nat→List Nat
 |a::b::r=>b::a::hV r
 |l=>l
noncomputable def aD:List SV→List (SV×SV)
 |a::b::r=>(a,b)::aD r
 |_=>[]
noncomputable def dJ(l:List (Nat×Nat)):List (Str×Str):=l.map λp=>(nm p.1,nm p.2)
theorem gT{α:Type}{P:List α→Prop}(h0:P [])(h2:∀a b r,P r→P (a::b::r)):∀{h:Nat}{l:List α},l.length=2*h→P l
 |0,[],_=>h0
 |0,_::_,e=>by simp at e
 |h+1,[],e=>by simp at e
 |h+1,[_],e=>by simp at e;lia
 |h+1,a::b::r,e=>h2 a b r (gT h0 h2 (h:=h) (by simp at e;lia))
theorem nH{i:Nat}(h:i<6):(u8 i).toNat=i:=by
 match i,h with
 |0,_|1,_|2,_|3,_|4,_|5,_=>rfl
theorem uJ{h:Nat}{is:List Nat}(hl:is.length=2*h):(∀i∈is,i<6)→aY (is.map u8)=dX is:=by
 refine gT (P:=λis=>(∀i∈is,i<6)→aY (is.map u8)=dX is) (λ_=>rfl) (λa b r ih h=>?_) hl
 show((u8 a).toNat,(u8 b).toNat)::aY (r.map u8)=_
 rw[ih λi hi=>h i (.tail _ (.tail _ hi)),nH (h a (.head _)),nH (h b (.tail _ (.head _)))]
 rfl
theorem qX{h:Nat}{is:List Nat}(hl:is.length=2*h):(dX is).length=h:=by
 have:2*(dX is).length=is.length:=gT (P:=λis=>2*(dX is).length=is.length) rfl (λa b r ih=>by show 2*((dX r).length+1)=r.length+1+1;lia) hl
 lia
theorem vD{h:Nat}{is:List Nat}(hl:is.length=2*h):(hV is).length=is.length:=
 gT (P:=λis=>(hV is).length=is.length) rfl (λa b r ih=>by show(hV r).length+1+1=r.length+1+1;rw[ih]) hl
theorem vE{h:Nat}{is:List Nat}(hl:is.length=2*h):∀i,i∈hV is↔i∈is:=by
 refine gT (P:=λis=>∀i,i∈hV is↔i∈is) (λi=>.rfl) (λa b r ih i=>?_) hl
 show i∈b::a::hV r↔_
 simp only[FY,ih]
 constructor<;>(rintro(h|h|h)<;>simp[h])
theorem zy{h:Nat}{is:List Nat}(hl:is.length=2*h):dX (hV is)=(dX is).map Prod.swap:=
 gT (P:=λis=>dX (hV is)=(dX is).map Prod.swap) rfl (λa b r ih=>by show(b,a)::dX (hV r)=(b,a)::(dX r).map Prod.swap;rw[ih]) hl
theorem jV{h:Nat}{is:List Nat}(hl:is.length=2*h):∀p∈dX is,p.1∈is∧p.2∈is:=by
 refine gT (P:=λis=>∀p∈dX is,p.1∈is∧p.2∈is) (λp hp=>absurd hp FU) (λa b r ih p hp=>?_) hl
 rcases FY.mp hp with e|hp
 ·subst e;exact⟨.head _,.tail _ (.head _)⟩
 ·exact⟨.tail _ (.tail _ (ih p hp).1),.tail _ (.tail _ (ih p hp).2)⟩
theorem yD:∀{A:List Ar}{is:List Nat}{h:Nat},is.length=2*h→bD A=dX is→(A.flatMap vW).map (·.1)=hV is
 |[],[],_,_,_=>rfl
 |_::_,[],_,_,e=>by cases e
 |_,[_],h,hl,_=>by have:1=2*h:=hl;lia
 |[],_::_::_,_,_,e=>by cases e
 |x::A,a::b::r,h,hl,e=>by
  have e:(x.a,x.b)::bD A=(a,b)::dX r:=e
  obtain⟨e1,e2⟩:=List.cons.inj e
  have:=yD (h:=h-1) (show r.length=2*(h-1)by simp at hl;lia) e2
  show x.b::x.a::(A.flatMap vW).map (·.1)=b::a::hV r
  rw[this,(Prod.mk.inj e1).1,(Prod.mk.inj e1).2]
theorem pQ{is:List Nat}(h:∀i∈is,i<6):fY (is.map u8)=is.map nm:=by
 unfold fY
 rw[List.map_map]
 exact List.map_congr_left λi hi=>by show nm (u8 i).toNat=nm i;rw[nH (h i hi)]
theorem jW:∀{s:List SV}{h:Nat},s.length=2*h→s=cE (aD s)∧(aD s).length=h
 |[],h,e=>⟨rfl,by simp at e;show 0=h;lia⟩
 |[_],h,e=>by have:1=2*h:=e;lia
 |a::b::r,h,e=>by
  obtain⟨h1,h2⟩:=jW (s:=r) (h:=h-1) (by simp at e;lia)
  refine⟨?_,?_⟩
  ·show _=a::b::cE (aD r);rw[←h1]
  ·show(aD r).length+1=h;simp at e;lia
theorem kF:∀{s:List SV}{is:List Nat},s.map (·.1)=is.map nm→jT (aD s)=dJ (dX is)
 |[],[],_=>rfl
 |[_],[_],_=>rfl
 |[],_::_,e=>by cases e
 |_::_,[],e=>by cases e
 |[_],_::_::_,e=>by have:=congrArg List.length e;simp at this
 |_::_::_,[_],e=>by have:=congrArg List.length e;simp at this
 |a::b::s,i::j::is,e=>by
  have e:a.1::b.1::s.map (·.1)=nm i::nm j::is.map nm:=e
  obtain⟨e1,e⟩:=List.cons.inj e
  obtain⟨e2,e⟩:=List.cons.inj e
  show(a.1,b.1)::jT (aD s)=(nm i,nm j)::dJ (dX is)
  rw[kF e,e1,e2]
structure qi(s:List SV)(k:Nat):Prop where
 ev:s=cE (aD s)
 len:5≤(aD s).length∧(aD s).length≤9
 ne:∀p∈aD s,p.1.1≠p.2.1
 ok:gI (jT (aD s)) k
theorem p0{s:List SV}{is:List Nat}{h k:Nat}(hs:s.map (·.1)=is.map nm)(hl:is.length=2*h)(h5:5≤h∧h≤9)(hne:∀p∈dJ (dX is),p.1≠p.2)(ok:gI (dJ (dX is)) k):qi s k:=by
 have hsl:s.length=2*h:=by have:=congrArg List.length hs;rw[FQ,FQ]at this;lia
 obtain⟨h1,h2⟩:=jW hsl
 have h3:=kF hs
 refine⟨h1,h2▸h5,λp hp=>?_,h3▸ok⟩
 exact hne (p.1.1,p.2.1) (h3▸FP hp)
structure qh(r:List (Str×Str)):Prop where
 ne:∀a∈cK r,a.2.2≠[]
 cl:∀a∈cK r,∀s∈a.2.2,s∈(cK r).map (·.1)
 nn:cK r≠[]
 sz:(cK r).length≤64
theorem pZ{w:World}{ar:List (SV×SV)}(ok:qh (jT ar))(g:fb)(hg:KV (SK w) g.es (aH g.G)∧ao g.G=iY [] ar):
  aR w 7 none [] (.call (.ref 919) ⟨[.ref (g.x1+937)],[]⟩) ([(g.x1+937,ap 167 (g.x2+937)),(g.x2+937,au w.params g.k1 g.k2 g.k3 g.k4 g.t3 g.t4 (g.x3+937) .none 0 0 4),(g.x3+937,ae g.es g.e2)]++GO g.G)
   (X:=Unit) (λ_ _=>True) (λ_=>.ok (.ret (.bool true))) (λ_=>[]):=by
 obtain⟨hkv,ha⟩:=hg
 rw[nP]at ha
 obtain⟨hne,hcl,hnn,hsz⟩:=ok
 exact xj hkv (λv hv e=>hne _ (ha▸jN hv) (by show v.ss.map (·.1)=[];rw[e];rfl)) (λe=>hnn (by rw[←ha,e];rfl))
  (λv hv s hs=>by rw[ha];exact hcl _ (ha▸jN hv) s.1 (FP hs))
  (by have:(ao g.G).length=g.G.length:=FQ ..;rw[ha]at this;lia)
theorem w6:∀i,i<6→∀j,j<6→nm i=nm j→i=j:=by decide +kernel
theorem zq{i j:Nat}(hi:i<6)(hj:j<6)(h:nm i=nm j):i=j:=w6 i hi j hj h
noncomputable def pi(ns:List Str)(s:Str):List Str:=if s∈ns then ns else ns++[s]
noncomputable def bf(r:List (Str×Str)):List Str:=r.foldl (λns p=>pi (pi ns p.1) p.2) []
noncomputable def cN(r:List (Str×Str))(s:Str):Int:=((r.filter (·.1=s)).length:Nat)
noncomputable def sN(r:List (Str×Str))(s:Str):List Str:=(r.filter (·.2=s)).map (·.1)
noncomputable def D(ns:List Str)(r:List (Str×Str)):List AN:=ns.map λs=>(s,cN r s,sN r s)
noncomputable def bc(r:List (Str×Str))(s:Str):Prop:=∃p∈r,s=p.1∨s=p.2
theorem hY(ns:List Str)(r:List (Str×Str)):(D ns r).map (·.1)=ns:=by
 unfold D
 rw[List.map_map]
 exact List.map_id' ns
theorem jO{ns:List Str}{s t:Str}:t∈pi ns s↔t∈ns∨t=s:=by
 unfold pi
 split
 ·exact⟨.inl,λh=>h.elim id λe=>e▸‹_›⟩
 ·rw[F0,FW]
theorem lG{ns:List Str}{s:Str}(h:ns.Nodup):(pi ns s).Nodup:=by
 unfold pi
 split
 ·exact h
 ·refine List.nodup_append.mpr ⟨h,by simp,λa ha b hb e=>?_⟩
  rw[FW.mp hb]at e
  exact ‹s∉ns› (e▸ha)
theorem od{ns:List Str}{r:List (Str×Str)}(h:∀s,bc r s→s∈ns)(s:Str):eL (D ns r) s=D (pi ns s) r:=by
 unfold eL
 rw[hY]
 unfold pi
 split
 ·rfl
 ·rename_i hs
  have h1:cN r s=0:=by
   unfold cN
   rw[List.filter_eq_nil_iff.mpr λp hp e=>hs (h s ⟨p,hp,.inl (of_decide_eq_true e).symm⟩)]
   rfl
  have h2:sN r s=[]:=by
   unfold sN
   rw[List.filter_eq_nil_iff.mpr λp hp e=>hs (h s ⟨p,hp,.inr (of_decide_eq_true e).symm⟩)]
   rfl
  show D ns r++[(s,0,[])]=(ns++[s]).map _
  rw[FM,List.map_singleton,h1,h2]
  rfl
theorem wj(r:List (Str×Str))(p:Str×Str)(s:Str):cN (r++[p]) s=cN r s+if p.1=s then 1 else 0:=by
 unfold cN
 rw[List.filter_append,FZ]
 by_cases h:p.1=s
 ·rw[if_pos h,List.filter_cons_of_pos (by simpa using h)];rfl
 ·rw[if_neg h,List.filter_cons_of_neg (by simpa using h)];rfl
theorem xu(r:List (Str×Str))(p:Str×Str)(s:Str):sN (r++[p]) s=sN r s++if p.2=s then[p.1]else[]:=by
 unfold sN
 rw[List.filter_append,FM]
 by_cases h:p.2=s
 ·rw[if_pos h,List.filter_cons_of_pos (by simpa using h)];rfl
 ·rw[if_neg h,List.filter_cons_of_neg (by simpa using h)];rfl
theorem yT{ns:List Str}{r:List (Str×Str)}(h:∀s,bc r s→s∈ns)(p:Str×Str):jH (D ns r) p.1 p.2=D (pi (pi ns p.1) p.2) (r++[p]):=by
 unfold jH
 rw[od h]
 have e:eL (bk fu p.1 (D (pi ns p.1) r)) p.2=bk fu p.1 (D (pi (pi ns p.1) p.2) r):=by
  have hn:∀s,bc r s→s∈pi ns p.1:=λs hs=>jO.mpr (.inl (h s hs))
  rw[←od hn p.2]
  unfold eL
  rw[bY (f:=fu) (λ_=>rfl)]
  split
  ·rfl
  ·rename_i hs
   unfold bk
   rw[FM,List.map_singleton,if_neg]
   intro e
   rw[hY]at hs
   exact hs (jO.mpr (.inr e))
 rw[e]
 unfold bk D
 rw[List.map_map,List.map_map]
 refine List.map_congr_left λs _=>?_
 show(if(if s=p.1 then fu (s,cN r s,sN r s)else(s,cN r s,sN r s)).1=p.2 then kG p.1 (if s=p.1 then fu (s,cN r s,sN r s)else(s,cN r s,sN r s))else(if s=p.1 then fu (s,cN r s,sN r s)else(s,cN r s,sN r s)))=_
 rw[wj,xu]
 by_cases h1:s=p.1<;>by_cases h2:s=p.2
 ·subst h1;simp[fu,kG,h2]
 ·subst h1;simp[fu,h2,Ne.symm h2]
 ·subst h2;simp[kG,h1,Ne.symm h1]
 ·simp[h1,h2,Ne.symm h1,Ne.symm h2]
theorem dR{α:Type}{P:List α→Prop}(h0:P [])(h1:∀l a,P l→P (l++[a]))(l:List α):P l:=by
 have:∀l:List α,P l.reverse:=λl=>by
  induction l with
  |nil=>exact h0
  |cons a l ih=>rw[List.reverse_cons];exact h1 _ _ ih
 have z:=this l.reverse
 rwa[List.reverse_reverse]at z
theorem g0(r:List (Str×Str))(p:Str×Str):bf (r++[p])=pi (pi (bf r) p.1) p.2:=by
 unfold bf;rw[List.foldl_append];rfl
theorem b0(r:List (Str×Str)):∀s,s∈bf r↔bc r s:=by
 refine dR (P:=λr=>∀s,s∈bf r↔bc r s) (λs=>⟨λh=>absurd h FU,λ⟨p,hp,_⟩=>absurd hp FU⟩) (λl p ih s=>?_) r
 rw[g0,jO,jO,ih]
 constructor
 ·rintro((⟨q,hq,h⟩|h)|h)
  ·exact⟨q,FN _ hq,h⟩
  ·exact⟨p,FO _ (.head _),.inl h⟩
  ·exact⟨p,FO _ (.head _),.inr h⟩
 ·rintro⟨q,hq,h⟩
  rcases F0.mp hq with hq|hq
  ·exact .inl (.inl ⟨q,hq,h⟩)
  ·rw[FW.mp hq]at h
   exact h.elim (λh=>.inl (.inr h)) .inr
theorem jw(r:List (Str×Str)):(bf r).Nodup:=
 dR (P:=λr=>(bf r).Nodup) List.nodup_nil (λl p ih=>by rw[g0];exact lG (lG ih)) r
theorem my(r:List (Str×Str)):cK r=D (bf r) r:=by
 refine dR (P:=λr=>cK r=D (bf r) r) rfl (λl p ih=>?_) r
 have:cK (l++[p])=jH (cK l) p.1 p.2:=by unfold cK;rw[List.foldl_append];rfl
 rw[this,ih,yT (λs hs=>(b0 l s).mpr hs),g0]
noncomputable abbrev bI(A:List AN):List Str:=A.map (·.1)
theorem pv{f:AN→AN}(hf:∀x,(f x).1=x.1)(g:Int→Int)(hg:∀x,(f x).2.1=g x.2.1){s:Str}:∀{A:List AN},s∈bI A→aS (bk f s A) s=g (aS A s)
 |[],h=>absurd h FU
 |x::A,h=>by
  unfold aS
  show Option.getD (Option.map (·.2.1) (List.find? _ ((if x.1=s then f x else x)::bk f s A))) 0=g (Option.getD (Option.map (·.2.1) (List.find? _ (x::A))) 0)
  by_cases e:x.1=s
  ·rw[if_pos e,List.find?_cons_of_pos (by simpa [hf]using e),List.find?_cons_of_pos (by simpa using e)]
   exact hg x
  ·rw[if_neg e,List.find?_cons_of_neg (by simpa using e),List.find?_cons_of_neg (by simpa using e)]
   exact pv hf g hg ((FY.mp h).resolve_left λq=>e q.symm)
theorem tA{s:Str}{A:List AN}(h:s∈bI A):aS (bk gR s A) s=aS A s-1:=pv (f:=gR) (λ_=>rfl) (· - 1) (λ_=>rfl) h
theorem tB{k:Int}{s:Str}{A:List AN}(h:s∈bI A):aS (bk (dE k) s A) s=k:=pv (f:=dE k) (λ_=>rfl) (λ_=>k) (λ_=>rfl) h
theorem oh:∀(l:List Str)(A:List AN)(r:List Str),(∀s∈l,s∈bI A)→(∀t∈l,(l.count t:Int)≤aS A t)→
  (∀t,aS (l.foldl cj (A,r)).1 t=aS A t-l.count t)∧∃new,(l.foldl cj (A,r)).2=r++new∧new.Nodup∧∀t,t∈new↔t∈l∧aS A t=l.count t
 |[],A,r,_,_=>⟨λt=>by simp,[],by simp,List.nodup_nil,λt=>by simp⟩
 |s::l,A,r,hm,hc=>by
  have hs:=hm s (.head _)
  have c1:aS (bk gR s A) s=aS A s-1:=tA hs
  have c2:∀t,t≠s→aS (bk gR s A) t=aS A t:=λt ht=>ij (f:=gR) (λ_=>rfl) ht A
  have hm':∀t∈l,t∈bI (bk gR s A):=λt ht=>by
   show t∈(bk gR s A).map (·.1)
   rw[bY (f:=gR) (λ_=>rfl)];exact hm t (.tail _ ht)
  have cc:∀t,((s::l).count t:Int)=l.count t+if t=s then 1 else 0:=λt=>by
   rw[List.count_cons]
   by_cases h:t=s
   ·subst h;simp
   ·have:(s==t)=false:=by simpa using λe=>h e.symm
    rw[this];simp[h]
  have hc':∀t∈l,(l.count t:Int)≤aS (bk gR s A) t:=λt ht=>by
   have h:=hc t (.tail _ ht)
   rw[cc t]at h
   by_cases e:t=s
   ·subst e;rw[c1];rw[if_pos rfl]at h;lia
   ·rw[c2 t e];rw[if_neg e]at h;lia
  obtain⟨i1,new,i2,i3,i4⟩:=oh l (bk gR s A) (if aS A s-1=0 then r++[s]else r) hm' hc'
  refine⟨λt=>?_,?_⟩
  ·show aS (l.foldl cj (bk gR s A,_)).1 t=_
   rw[i1 t,cc t]
   by_cases e:t=s
   ·subst e;rw[c1,if_pos rfl];lia
   ·rw[c2 t e,if_neg e];lia
  ·show∃new',(l.foldl cj (bk gR s A,_)).2=r++new'∧_
   rw[i2]
   by_cases hz:aS A s-1=0
   ·have hs1:=hc s (.head _)
    rw[cc s,if_pos rfl]at hs1
    have hl0:l.count s=0:=by lia
    have hsl:s∉l:=List.count_eq_zero.mp hl0
    refine⟨s::new,by rw[if_pos hz,FV];rfl,List.nodup_cons.mpr ⟨λh=>hsl ((i4 s).mp h).1,i3⟩,λt=>?_⟩
    rw[FY,i4 t,cc t]
    by_cases e:t=s
    ·subst e
     simp only[true_or,FY,true_and,if_pos,true_iff]
     lia
    ·rw[c2 t e,if_neg e]
     simp[e]
   ·refine⟨new,by rw[if_neg hz],i3,λt=>?_⟩
    rw[i4 t,cc t]
    by_cases e:t=s
    ·subst e
     rw[c1,if_pos rfl]
     constructor
     ·rintro⟨h1,h2⟩;exact⟨.head _,by lia⟩
     ·rintro⟨_,h2⟩
      have:l.count t≠0:=λq=>hz (by lia)
      exact⟨List.count_pos_iff.mp (by lia),by lia⟩
    ·rw[c2 t e,if_neg e]
     simp[e]
theorem lJ:∀(P:List Str)(A:List AN)(r:List Str),P.Nodup→(∀s∈P,s∈bI A)→(∀t∈P.flatMap (aJ A),t∈bI A∧t∉P)→(∀t∈P.flatMap (aJ A),((P.flatMap (aJ A)).count t:Int)≤aS A t)→
  bK (P.foldl bd (A,r)).1=bK A∧(∀t,t∉P→aS (P.foldl bd (A,r)).1 t=aS A t-(P.flatMap (aJ A)).count t)∧
   ∃new,(P.foldl bd (A,r)).2=r++new∧new.Nodup∧∀t,t∈new↔t∈P.flatMap (aJ A)∧aS A t=(P.flatMap (aJ A)).count t
 |[],A,r,_,_,_,_=>⟨rfl,λt _=>by simp,[],by simp,List.nodup_nil,λt=>by simp⟩
 |s::P,A,r,hn,hm,hx,hc=>by
  obtain⟨hsP,hn⟩:=List.nodup_cons.mp hn
  have hl:(s::P).flatMap (aJ A)=aJ A s++P.flatMap (aJ A):=List.flatMap_cons
  rw[hl]at hx hc⊢
  have hns:∀t,t∈aJ A s→t≠s:=λt ht e=>(hx t (FN _ ht)).2 (e▸.head _)
  have c0:∀t,t≠s→aS (bk (dE (-2)) s A) t=aS A t:=λt ht=>ij (f:=dE (-2)) (λ_=>rfl) ht A
  have nm0:bI (bk (dE (-2)) s A)=bI A:=bY (f:=dE (-2)) (λ_=>rfl) s A
  have hcs:∀t∈aJ A s,((aJ A s).count t:Int)≤aS (bk (dE (-2)) s A) t:=λt ht=>by
   have:=hc t (FN _ ht)
   rw[List.count_append]at this
   rw[c0 t (hns t ht)];lia
  obtain⟨d1,new1,d2,d3,d4⟩:=oh (aJ A s) (bk (dE (-2)) s A) r (λt ht=>nm0▸(hx t (FN _ ht)).1) hcs
  obtain⟨A1,hA1⟩:∃A1,A1=(bd (A,r) s).1:=⟨_,rfl⟩
  have e1:bd (A,r) s=(A1,r++new1):=by rw[hA1,←d2];rfl
  have hsk:bK A1=bK A:=by rw[hA1];exact l8 (A,r) s
  have hsucc:∀t,aJ A1 t=aJ A t:=λt=>iL hsk t
  have hnames:bI A1=bI A:=cX hsk
  have hcnt:∀t,t≠s→aS A1 t=aS A t-(aJ A s).count t:=λt ht=>by rw[hA1];show aS ((aJ A s).foldl cj (bk (dE (-2)) s A,r)).1 t=_;rw[d1 t,c0 t ht]
  have hfm:P.flatMap (aJ A1)=P.flatMap (aJ A):=by congr 1;funext t;exact hsucc t
  have hsl:∀t∈P.flatMap (aJ A),t≠s:=λt ht e=>(hx t (FO _ ht)).2 (e▸.head _)
  obtain⟨i1,i2,new2,i3,i4,i5⟩:=lJ P A1 (r++new1) hn (λt ht=>hnames▸hm t (.tail _ ht))
   (λt ht=>by rw[hfm]at ht;exact⟨hnames▸(hx t (FO _ ht)).1,λh=>(hx t (FO _ ht)).2 (.tail _ h)⟩)
   (λt ht=>by
    rw[hfm]at ht⊢
    have:=hc t (FO _ ht)
    rw[List.count_append]at this
    rw[hcnt t (hsl t ht)];lia)
  rw[hfm]at i2 i5
  have hf:(s::P).foldl bd (A,r)=P.foldl bd (A1,r++new1):=by rw[List.foldl_cons,e1]
  rw[hf]
  refine⟨i1.trans hsk,λt ht=>?_,new1++new2,by rw[i3,FV],?_,λt=>?_⟩
  ·rw[FY,not_or]at ht
   rw[i2 t ht.2,hcnt t ht.1,List.count_append];lia
  ·refine List.nodup_append.mpr ⟨d3,i4,λa ha b hb e=>?_⟩
   subst e
   obtain⟨a1,a2⟩:=(d4 a).mp ha
   obtain⟨b1,b2⟩:=(i5 a).mp hb
   have h:=hc a (FN _ a1)
   rw[List.count_append]at h
   rw[c0 a (hns a a1)]at a2
   have:=List.count_pos_iff.mpr b1
   lia
  ·rw[F0,d4,i5,F0,List.count_append]
   constructor
   ·rintro(⟨a1,a2⟩|⟨b1,b2⟩)
    ·have h:=hc t (FN _ a1)
     rw[List.count_append]at h
     rw[c0 t (hns t a1)]at a2
     exact⟨.inl a1,by lia⟩
    ·rw[hcnt t (hsl t b1)]at b2
     exact⟨.inr b1,by lia⟩
   ·rintro⟨h1,h2⟩
    by_cases hb:t∈P.flatMap (aJ A)
    ·exact .inr ⟨hb,by rw[hcnt t (hsl t hb)];lia⟩
    ·have ha:=h1.resolve_right hb
     have:=List.count_eq_zero.mpr hb
     exact .inl ⟨ha,by rw[c0 t (hns t ha)];lia⟩
theorem o5:∀(R:List Str)(A:List AN),bK (ba R A)=bK A
 |[],_=>rfl
 |s::R,A=>(o5 R _).trans (kN (f:=dE (-1)) (λ_=>⟨rfl,rfl⟩) s A)
theorem mE:∀(R:List Str)(A:List AN)(t:Str),(∀s∈R,s∈bI A)→aS (ba R A) t=if t∈R then -1 else aS A t
 |[],A,t,_=>by simp[ba]
 |s::R,A,t,h=>by
  have hn:bI (bk (dE (-1)) s A)=bI A:=bY (f:=dE (-1)) (λ_=>rfl) s A
  have:=mE R (bk (dE (-1)) s A) t (λq hq=>hn▸h q (.tail _ hq))
  show aS (ba R (bk (dE (-1)) s A)) t=_
  rw[this]
  by_cases h1:t∈R
  ·rw[if_pos h1,if_pos (.tail _ h1)]
  ·rw[if_neg h1]
   by_cases e:t=s
   ·subst e;rw[if_pos (.head _),tB (h t (.head _))]
   ·rw[if_neg (by simp[e,h1]),ij (f:=dE (-1)) (λ_=>rfl) e]
section
theorem vA{r:List (Str×Str)}{s:Str}:∀{ns:List Str},s∈ns→aJ (D ns r) s=sN r s
 |[],h=>absurd h FU
 |x::ns,h=>by
  show Option.getD (Option.map (·.2) (List.find? _ ((x,sN r x)::bK (D ns r)))) []=_
  by_cases e:x=s
  ·subst e;rw[List.find?_cons_of_pos (by simp)];rfl
  ·rw[List.find?_cons_of_neg (by simpa using e)]
   exact vA (ns:=ns) ((FY.mp h).resolve_left λq=>e q.symm)
theorem x8{r:List (Str×Str)}{s:Str}:∀{ns:List Str},s∈ns→aS (D ns r) s=cN r s
 |[],h=>absurd h FU
 |x::ns,h=>by
  show Option.getD (Option.map (·.2.1) (List.find? _ ((x,cN r x,sN r x)::D ns r))) 0=_
  by_cases e:x=s
  ·subst e;rw[List.find?_cons_of_pos (by simp)];rfl
  ·rw[List.find?_cons_of_neg (by simpa using e)]
   exact x8 (ns:=ns) ((FY.mp h).resolve_left λq=>e q.symm)
theorem oY(t s:Str):∀E:List (Str×Str),(sN E s).count t=E.countP λp=>decide (p.1=t∧p.2=s)
 |[]=>rfl
 |p::E=>by
  have ih:=oY t s E
  rw[List.countP_cons,←ih]
  unfold sN
  by_cases h:p.2=s
  ·rw[List.filter_cons_of_pos (by simpa using h),FR,List.count_cons]
   by_cases h2:p.1=t<;>simp[h,h2]
  ·rw[List.filter_cons_of_neg (by simpa using h)]
   simp[h]
theorem n4{t s:Str}{R:List Str}(hs:s∉R):∀E:List (Str×Str),(E.countP λp=>decide (p.1=t∧p.2∈s::R))=(E.countP λp=>decide (p.1=t∧p.2=s))+E.countP λp=>decide (p.1=t∧p.2∈R)
 |[]=>rfl
 |p::E=>by
  rw[List.countP_cons,List.countP_cons,List.countP_cons,n4 hs E]
  by_cases h1:p.1=t<;>by_cases h2:p.2=s
  ·have:p.2∉R:=h2▸hs
   simp[h1,h2,hs];lia
  ·by_cases h3:p.2∈R<;>simp[h1,h2,h3]<;>lia
  ·simp[h1]
  ·simp[h1]
theorem og{E:List (Str×Str)}{t:Str}:∀{R:List Str},R.Nodup→(R.flatMap (sN E)).count t=E.countP λp=>decide (p.1=t∧p.2∈R)
 |[],_=>by simp
 |s::R,h=>by
  obtain⟨h1,h2⟩:=List.nodup_cons.mp h
  rw[List.flatMap_cons,List.count_append,oY,og h2,n4 h1]
structure Ex(E:List (Str×Str))(f:Str→Nat):Prop where
 lt:∀p∈E,f p.2<f p.1
 hit:∀s,bc E s→f s≠0→∃p∈E,p.1=s∧f p.2+1=f s
structure vR(E:List (Str×Str))(f:Str→Nat)(k:Nat)(A:List AN)(R:List Str):Prop where
 sk:bK A=bK (D (bf E) E)
 nd:R.Nodup
 mem:∀s,s∈R↔bc E s∧f s=k
 cnt:∀s,bc E s→k≤f s→aS A s=(E.countP λp=>decide (p.1=s∧k≤f p.2):Nat)
section
variable{E:List (Str×Str)}{f:Str→Nat}(L:Ex E f)
theorem jU{s:Str}(h:bc E s):s∈bf E:=(b0 E s).mpr h
include L in
theorem CW:vR E f 0 (cK E) (bG (cK E)):=by
 rw[my]
 have hr:bG (D (bf E) E)=(bf E).filter λs=>cN E s==0:=by
  unfold bG D
  rw[List.filter_map,List.map_map]
  exact List.map_id' _
 have h0:∀s,bc E s→(cN E s=0↔f s=0):=λs hs=>by
  unfold cN
  constructor
  ·intro h
   apply Classical.byContradiction
   intro hf
   obtain⟨p,hp,e,_⟩:=L.hit s hs hf
   have:p∈E.filter (·.1=s):=List.mem_filter.mpr ⟨hp,by simpa using e⟩
   have:=List.length_pos_of_mem this
   lia
  ·intro h
   rw[List.filter_eq_nil_iff.mpr λp hp e=>by
    have:=L.lt p hp
    rw[show p.1=s from of_decide_eq_true e,h]at this
    exact absurd this (Nat.not_lt_zero _)]
   rfl
 refine⟨rfl,hr▸(jw E).filter _,λs=>?_,λs hs _=>?_⟩
 ·rw[hr,List.mem_filter,b0]
  constructor
  ·rintro⟨h1,h2⟩;exact⟨h1,(h0 s h1).mp (by simpa using h2)⟩
  ·rintro⟨h1,h2⟩;exact⟨h1,by simpa using (h0 s h1).mpr h2⟩
 ·rw[x8 (jU hs)]
  unfold cN
  rw[←List.countP_eq_length_filter]
  congr 1
  exact congrArg (λq=>List.countP q E) (funext λp=>by simp)
theorem vR.names{k:Nat}{A:List AN}{R:List Str}(I:vR E f k A R):bI A=bf E:=(cX I.sk).trans (hY _ _)
theorem vR.succ{k:Nat}{A:List AN}{R:List Str}(I:vR E f k A R){s:Str}(h:bc E s):aJ A s=sN E s:=(iL I.sk s).trans (vA (jU h))
theorem kL{s t:Str}(h:t∈sN E s):(t,s)∈E:=by
 unfold sN at h
 obtain⟨p,hp,rfl⟩:=FX.mp h
 obtain⟨h1,h2⟩:=List.mem_filter.mp hp
 have:p.2=s:=by simpa using h2
 rw[←this];exact h1
theorem vR.fm{k:Nat}{A:List AN}{R:List Str}(I:vR E f k A R):R.flatMap (aJ A)=R.flatMap (sN E):=by
 have:∀R':List Str,(∀s∈R',bc E s)→R'.flatMap (aJ A)=R'.flatMap (sN E):=λR'=>by
  induction R' with
  |nil=>intro _;rfl
  |cons s R' ih =>
   intro h
   rw[List.flatMap_cons,List.flatMap_cons,ih λq hq=>h q (.tail _ hq),I.succ (h s (.head _))]
 exact this R λs hs=>((I.mem s).mp hs).1
theorem qp{t:Str}{k:Nat}:∀E:List (Str×Str),(E.countP λp=>decide (p.1=t∧k≤f p.2))=(E.countP λp=>decide (p.1=t∧f p.2=k))+E.countP λp=>decide (p.1=t∧k+1≤f p.2)
 |[]=>rfl
 |p::E=>by
  rw[List.countP_cons,List.countP_cons,List.countP_cons,qp E]
  by_cases h1:p.1=t
  ·by_cases h2:f p.2=k
   ·have h4:¬(k+1≤k):=by lia
    simp[h1,h2,h4];lia
   ·by_cases h3:k≤f p.2
    ·have:k+1≤f p.2:=by lia
     simp[h1,h2,h3,this];lia
    ·have:¬k+1≤f p.2:=by lia
     simp[h1,h2,h3,this]
  ·simp[h1]
theorem tz:d8 (D (bf E) E):=by
 intro a ha s hs
 rw[fE,hY,b0]
 unfold bK D at ha
 rw[List.map_map]at ha
 obtain⟨x,_,rfl⟩:=FX.mp ha
 exact⟨_,kL hs,.inl rfl⟩
theorem xx(hE:E.length≤64):gk (D (bf E) E):=by
 intro a ha
 unfold bK D at ha
 rw[List.map_map]at ha
 obtain⟨x,_,rfl⟩:=FX.mp ha
 show(sN E x).length≤64
 unfold sN
 rw[FQ]
 exact Nat.le_trans (List.length_filter_le _ _) hE
include L in
theorem tV(h6:(bf E).length≤6)(hE:E.length≤64){k:Nat}{A:List AN}{R:List Str}(I:vR E f k A R):gP A R∧vR E f (k+1) (eF A R).1 (eF A R).2:=by
 have hR:=λs hs=>(I.mem s).mp hs
 have hRA:∀s∈R,s∈bI A:=λs hs=>I.names▸jU (hR s hs).1
 have sk1:bK (ba R A)=bK A:=o5 R A
 have nm1:bI (ba R A)=bI A:=cX sk1
 have c1:∀t,t∉R→aS (ba R A) t=aS A t:=λt ht=>by rw[mE R A t hRA,if_neg ht]
 have fm:R.flatMap (aJ (ba R A))=R.flatMap (sN E):=by
  have:R.flatMap (aJ (ba R A))=R.flatMap (aJ A):=by congr 1;funext t;exact iL sk1 t
  rw[this,I.fm]
 have inf:∀t,t∈R.flatMap (sN E)→∃q∈R,(t,q)∈E:=λt ht=>by
  obtain⟨q,hq,h⟩:=List.mem_flatMap.mp ht
  exact⟨q,hq,kL h⟩
 have up:∀t,t∈R.flatMap (sN E)→bc E t∧k<f t∧t∉R:=λt ht=>by
  obtain⟨q,hq,h⟩:=inf t ht
  have:=L.lt _ h
  have hk:=(hR q hq).2
  exact⟨⟨_,h,.inl rfl⟩,by simp only at this;lia,λhr=>by have:=(hR t hr).2;simp only at *;lia⟩
 have ct:∀t,(R.flatMap (sN E)).count t=E.countP λp=>decide (p.1=t∧f p.2=k):=λt=>by
  rw[og I.nd]
  refine List.countP_congr λp hp=>?_
  have:p.2∈R↔f p.2=k:=by rw[I.mem];exact⟨λh=>h.2,λh=>⟨⟨p,hp,.inr rfl⟩,h⟩⟩
  simp[this]
 have cA:∀t,bc E t→k≤f t→aS A t=((R.flatMap (sN E)).count t:Int)+(E.countP λp=>decide (p.1=t∧k+1≤f p.2):Nat):=λt h1 h2=>by
  rw[I.cnt t h1 h2,ct t,qp];lia
 obtain⟨d1,d2,new,d3,d4,d5⟩:=lJ R (ba R A) [] I.nd (λs hs=>nm1▸hRA s hs)
  (λt ht=>by rw[fm]at ht;obtain⟨h1,_,h3⟩:=up t ht;exact⟨nm1▸(I.names▸jU h1),h3⟩)
  (λt ht=>by rw[fm]at ht⊢;obtain⟨h1,h2,h3⟩:=up t ht;rw[c1 t h3,cA t h1 (by lia)];lia)
 rw[fm]at d2 d5
 have d3:(R.foldl bd (ba R A,[])).2=new:=by rw[d3];rfl
 refine⟨⟨?_,hRA,I.nd,i6 (sk1.trans I.sk) tz,kM (sk1.trans I.sk) (xx hE),λs hs=>⟨by show s∈bI (ba R A);rw[nm1];exact hRA s hs,by rw[mE R A s hRA,if_pos hs]⟩,λs hs t ht=>?_⟩,?_⟩
 ·exact Nat.le_trans (I.nd.length_le_of_subset λs hs=>I.names▸hRA s hs) h6
 ·have:t∈R.flatMap (sN E):=List.mem_flatMap.mpr ⟨s,hs,by rw[iL sk1,I.succ (hR s hs).1]at ht;exact ht⟩
  exact(up t this).2.2
 ·refine⟨d1.trans (sk1.trans I.sk),?_,λs=>?_,λs h1 h2=>?_⟩
  ·show(R.foldl bd (ba R A,[])).2.Nodup
   rw[d3];exact d4
  ·show s∈(R.foldl bd (ba R A,[])).2↔_
   rw[d3,d5]
   constructor
   ·rintro⟨h1,h2⟩
    obtain⟨u1,u2,u3⟩:=up s h1
    rw[c1 s u3,cA s u1 (by lia)]at h2
    refine⟨u1,?_⟩
    obtain⟨p,hp,e1,e2⟩:=L.hit s u1 (by lia)
    apply Classical.byContradiction
    intro hne
    have h0:(E.countP λp=>decide (p.1=s∧k+1≤f p.2))=0:=by lia
    have:=List.countP_eq_zero.mp h0 p hp
    exact this (by simp only[decide_eq_true_eq];exact⟨e1,by lia⟩)
   ·rintro⟨u1,u2⟩
    obtain⟨p,hp,e1,e2⟩:=L.hit s u1 (by lia)
    have hpR:p.2∈R:=(I.mem p.2).mpr ⟨⟨p,hp,.inr rfl⟩,by lia⟩
    have hin:s∈R.flatMap (sN E):=List.mem_flatMap.mpr ⟨p.2,hpR,by
     unfold sN
     exact FX.mpr ⟨p,List.mem_filter.mpr ⟨hp,by simp⟩,e1⟩⟩
    obtain⟨_,_,u3⟩:=up s hin
    refine⟨hin,?_⟩
    have h0:(E.countP λp=>decide (p.1=s∧k+1≤f p.2))=0:=List.countP_eq_zero.mpr λq hq h=>by
     simp only[decide_eq_true_eq]at h
     have:=L.lt q hq
     rw[h.1,u2]at this
     lia
    rw[c1 s u3,cA s u1 (by lia),h0];lia
  ·have hs:s∉R:=λh=>by have:=(hR s h).2;lia
   show aS (R.foldl bd (ba R A,[])).1 s=_
   rw[d2 s hs,c1 s hs,cA s h1 (by lia)];lia
noncomputable def dw(E:List (Str×Str))(f:Str→Nat):Nat→List (List Str)→Prop
 |_,[]=>True
 |k,X::l=>(X.Nodup∧∀s,s∈X↔bc E s∧f s=k)∧dw E f (k+1) l
include L in
theorem Bj(h6:(bf E).length≤6)(hE:E.length≤64):∀(n k:Nat)(A:List AN)(R:List Str),vR E f k A R→(∀s,bc E s→f s<k+n)→(∀s,bc E s→∀j,j≤f s→∃t,bc E t∧f t=j)→
  gL n A R∧dw E f k (bB n A R)∧∀s,bc E s→f s<k+(bB n A R).length∧((∃t,bc E t∧k≤f t)→∃t,bc E t∧f t+1=k+(bB n A R).length)
 |0,k,A,R,I,hb,_=>by
  have:R=[]:=by
   apply List.eq_nil_iff_forall_not_mem.mpr
   intro s hs
   obtain⟨h1,h2⟩:=(I.mem s).mp hs
   have:=hb s h1;lia
  exact⟨this,trivial,λs hs=>⟨hb s hs,λ⟨t,h1,h2⟩=>absurd (hb t h1) (by lia)⟩⟩
 |n+1,k,A,R,I,hb,hd=>by
  unfold gL bB
  by_cases hR:R=[]
  ·rw[if_pos hR]
   have low:∀s,bc E s→f s<k:=λs hs=>by
    apply Classical.byContradiction
    intro h
    obtain⟨t,t1,t2⟩:=hd s hs k (by lia)
    have:=(I.mem t).mpr ⟨t1,t2⟩
    rw[hR]at this;cases this
   exact⟨.inl hR,trivial,λs hs=>⟨by have:=low s hs;simp;lia,λ⟨t,h1,h2⟩=>absurd (low t h1) (by lia)⟩⟩
  ·rw[if_neg hR]
   obtain⟨S,I'⟩:=tV L h6 hE I
   obtain⟨g1,g2,g3⟩:=Bj h6 hE n (k+1) _ _ I' (λs hs=>by have:=hb s hs;lia) hd
   refine⟨.inr ⟨S,g1⟩,⟨⟨I.nd,I.mem⟩,g2⟩,λs hs=>?_⟩
   obtain⟨a1,a2⟩:=g3 s hs
   refine⟨by rw[FT];lia,λ_=>?_⟩
   by_cases h:∃t,bc E t∧k+1≤f t
   ·obtain⟨t,t1,t2⟩:=a2 h
    exact⟨t,t1,by rw[FT];lia⟩
   ·obtain⟨q,hq⟩:=List.exists_mem_of_ne_nil R hR
    obtain⟨q1,q2⟩:=(I.mem q).mp hq
    have:(bB n (eF A R).1 (eF A R).2)=[]:=by
     cases n with
     |zero=>rfl
     |succ n =>
      unfold bB
      rw[if_pos]
      apply List.eq_nil_iff_forall_not_mem.mpr
      intro z hz
      obtain⟨z1,z2⟩:=(I'.mem z).mp hz
      exact h ⟨z,z1,by lia⟩
    exact⟨q,q1,by rw[this,q2];rfl⟩
end
end
section
theorem lQ:∀(l:List Nat)(q:Nat),dD q l∈q::l∧∀x∈q::l,x≤dD q l
 |[],q=>⟨.head _,λx hx=>by rw[FW.mp hx];exact Nat.le_refl _⟩
 |p::r,q=>by
  obtain⟨h1,h2⟩:=lQ r (if p>q then p else q)
  unfold dD
  by_cases h:p>q
  ·rw[if_pos h]at h1 h2⊢
   refine⟨.tail _ h1,λx hx=>?_⟩
   rcases FY.mp hx with e|hx
   ·subst e;exact Nat.le_trans (Nat.le_of_lt h) (h2 p (.head _))
   ·exact h2 x hx
  ·rw[if_neg h]at h1 h2⊢
   refine⟨?_,λx hx=>?_⟩
   ·rcases FY.mp h1 with e|h1
    ·rw[e];exact .head _
    ·exact .tail _ (.tail _ h1)
   ·rcases FY.mp hx with e|hx
    ·subst e;exact h2 _ (.head _)
    ·rcases FY.mp hx with e|hx
     ·subst e;exact Nat.le_trans (Nat.le_of_not_lt h) (h2 q (.head _))
     ·exact h2 x (.tail _ hx)
theorem eW{l:List Nat}(h:l≠[]):gZ l∈l∧∀x∈l,x≤gZ l:=by
 cases l with
 |nil=>exact absurd rfl h
 |cons p r=>exact lQ r p
noncomputable def mB(L:List (Nat×Nat))(g:Nat→Nat)(a:Nat):List Nat:=(L.filter (·.1=a)).map λp=>g p.2+1
noncomputable def nM(L:List (Nat×Nat)):Nat→Nat→Nat
 |0,_=>0
 |n+1,a=>gZ (mB L (nM L n) a++[0])
noncomputable abbrev lv(L:List (Nat×Nat))(a:Nat):Nat:=nM L 8 a
theorem gs{L:List (Nat×Nat)}{g:Nat→Nat}{a x:Nat}:x∈mB L g a↔∃p∈L,p.1=a∧g p.2+1=x:=by
 unfold mB
 constructor
 ·intro h
  obtain⟨p,hp,e⟩:=FX.mp h
  obtain⟨h1,h2⟩:=List.mem_filter.mp hp
  exact⟨p,h1,by simpa using h2,e⟩
 ·rintro⟨p,h1,h2,e⟩
  exact FX.mpr ⟨p,List.mem_filter.mpr ⟨h1,by simpa using h2⟩,e⟩
theorem iZ{L:List (Nat×Nat)}{g g':Nat→Nat}{a:Nat}(h:∀p∈L,p.1=a→g p.2=g' p.2):mB L g a=mB L g' a:=by
 unfold mB
 refine List.map_congr_left λp hp=>?_
 obtain⟨h1,h2⟩:=List.mem_filter.mp hp
 rw[h p h1 (by simpa using h2)]
structure Rk(L:List (Nat×Nat))(ρ:Nat→Nat):Prop where
 dn:∀p∈L,ρ p.2 < ρ p.1
 b5:∀p∈L,ρ p.1≤5
section
variable{L:List (Nat×Nat)}{ρ:Nat→Nat}(K:Rk L ρ)
include K in
theorem uv:∀(n a:Nat),nM L n a≤ρ a
 |0,a=>Nat.zero_le _
 |n+1,a=>by
  show gZ (mB L (nM L n) a++[0])≤ρ a
  obtain⟨h1,_⟩:=eW (l:=mB L (nM L n) a++[0]) (by simp)
  rcases F0.mp h1 with h|h
  ·obtain⟨p,hp,e,q⟩:=gs.mp h
   have:=uv n p.2
   have:=K.dn p hp
   rw[e]at this
   lia
  ·rw[FW.mp h];exact Nat.zero_le _
include K in
theorem uw:∀(n a:Nat),ρ a≤n→nM L n a=nM L (n+1) a
 |0,a,h=>by
  have:mB L (nM L 0) a=[]:=List.eq_nil_iff_forall_not_mem.mpr λx hx=>by
   obtain⟨p,hp,e,_⟩:=gs.mp hx
   have:=K.dn p hp
   rw[e]at this
   lia
  show 0=gZ (mB L (nM L 0) a++[0])
  rw[this]
  rfl
 |n+1,a,h=>by
  show gZ (mB L (nM L n) a++[0])=gZ (mB L (nM L (n+1)) a++[0])
  rw[iZ λp hp e=>uw n p.2 (by have:=K.dn p hp;rw[e]at this;lia)]
include K in
theorem pO(a:Nat):lv L a=gZ (mB L (lv L) a++[0]):=by
 show gZ (mB L (nM L 7) a++[0])=_
 rw[iZ λp hp e=>uw K 7 p.2 (by have:=K.dn p hp;have:=K.b5 p hp;lia)]
include K in
theorem ur{p:Nat×Nat}(hp:p∈L):lv L p.2<lv L p.1:=by
 rw[pO K p.1]
 exact(eW (l:=mB L (lv L) p.1++[0]) (by simp)).2 _ (FN _ (gs.mpr ⟨p,hp,rfl,rfl⟩))
include K in
theorem ut{a:Nat}(h:lv L a≠0):∃p∈L,p.1=a∧lv L p.2+1=lv L a:=by
 have e:=pO K a
 obtain⟨h1,_⟩:=eW (l:=mB L (lv L) a++[0]) (by simp)
 rw[←e]at h1
 rcases F0.mp h1 with h1|h1
 ·exact gs.mp h1
 ·exact absurd (FW.mp h1) h
noncomputable def cv(L:List (Nat×Nat))(a:Nat):Prop:=∃p∈L,a=p.1∨a=p.2
include K in
theorem qO{a:Nat}(h:cv L a):lv L a≤5:=by
 obtain⟨p,hp,h⟩:=h
 have h1:lv L p.1≤ρ p.1:=uv K 8 p.1
 have h2:=K.b5 p hp
 have h3:=ur K hp
 rcases h with rfl|rfl<;>lia
include K in
theorem qP:∀(n:Nat)(a:Nat),cv L a→lv L a=n→∀j,j≤n→∃b,cv L b∧lv L b=j
 |0,a,h,e,j,hj=>⟨a,h,by lia⟩
 |n+1,a,h,e,j,hj=>by
  by_cases q:j=n+1
  ·exact⟨a,h,by lia⟩
  ·obtain⟨p,hp,e1,e2⟩:=ut K (a:=a) (by lia)
   exact qP n p.2 ⟨p,hp,.inr rfl⟩ (by lia) j (by lia)
end
noncomputable def pj(s:Str):Nat:=if s=nm 0 then 0 else if s=nm 1 then 1 else if s=nm 2 then 2 else if s=nm 3 then 3 else if s=nm 4 then 4 else 5
theorem d0{i:Nat}(h:i<6):pj (nm i)=i:=by
 match i,h with
 |0,_|1,_|2,_|3,_|4,_|5,_=>decide +kernel
noncomputable abbrev fS(L:List (Nat×Nat))(s:Str):Nat:=lv L (pj s)
section
variable{L:List (Nat×Nat)}{ρ:Nat→Nat}(K:Rk L ρ)(h6:∀p∈L,p.1<6∧p.2<6)
include h6 in
theorem c6{a:Nat}(h:cv L a):a<6:=by
 obtain⟨p,hp,h⟩:=h
 have:=h6 p hp
 rcases h with rfl|rfl
 ·exact this.1
 ·exact this.2
theorem bA{s:Str}:bc (dJ L) s↔∃a,cv L a∧s=nm a:=by
 constructor
 ·rintro⟨q,hq,h⟩
  obtain⟨p,hp,rfl⟩:=FX.mp hq
  rcases h with h|h
  ·exact⟨p.1,⟨p,hp,.inl rfl⟩,h⟩
  ·exact⟨p.2,⟨p,hp,.inr rfl⟩,h⟩
 ·rintro⟨a,⟨p,hp,h⟩,rfl⟩
  refine⟨(nm p.1,nm p.2),FP hp,?_⟩
  rcases h with rfl|rfl
  ·exact .inl rfl
  ·exact .inr rfl
include K h6 in
theorem qQ:Ex (dJ L) (fS L):=by
 refine⟨λq hq=>?_,λs hs h=>?_⟩
 ·obtain⟨p,hp,rfl⟩:=FX.mp hq
  show lv L (pj (nm p.2))<lv L (pj (nm p.1))
  rw[d0 (h6 p hp).1,d0 (h6 p hp).2]
  exact ur K hp
 ·obtain⟨a,ha,rfl⟩:=bA.mp hs
  have ha6:=c6 h6 ha
  rw[show fS L (nm a)=lv L a by show lv L (pj (nm a))=_;rw[d0 ha6]]at h⊢
  obtain⟨p,hp,e1,e2⟩:=ut K h
  refine⟨(nm p.1,nm p.2),FP hp,by rw[e1],?_⟩
  show lv L (pj (nm p.2))+1=_
  rw[d0 (h6 p hp).2,e2]
include h6 in
theorem pR:(bf (dJ L)).length≤6:=by
 have hs:bf (dJ L) ⊆ [nm 0,nm 1,nm 2,nm 3,nm 4,nm 5]:=λs hs=>by
  obtain⟨a,ha,rfl⟩:=bA.mp ((b0 _ _).mp hs)
  have ha6:=c6 h6 ha
  match a,ha6 with
  |0,_|1,_|2,_|3,_|4,_|5,_=>simp
 exact(jw _).length_le_of_subset hs
include K h6 in
theorem kJ(hE:L.length≤64):gL 6 (cK (dJ L)) (bG (cK (dJ L)))∧dw (dJ L) (fS L) 0 (fO (dJ L) 6)∧
  ∀a,cv L a→lv L a<(fO (dJ L) 6).length∧∃b,cv L b∧lv L b+1=(fO (dJ L) 6).length:=by
 have fa:∀a,cv L a→fS L (nm a)=lv L a:=λa ha=>by show lv L (pj (nm a))=_;rw[d0 (c6 h6 ha)]
 obtain⟨g1,g2,g3⟩:=Bj (qQ K h6) (pR h6) (by unfold dJ;rw[FQ];exact hE) 6 0 _ _ (CW (qQ K h6))
  (λs hs=>by obtain⟨a,ha,rfl⟩:=bA.mp hs;rw[fa a ha];have:=qO K ha;lia)
  (λs hs j hj=>by
   obtain⟨a,ha,rfl⟩:=bA.mp hs
   rw[fa a ha]at hj
   obtain⟨b,hb,e⟩:=qP K _ a ha rfl j hj
   exact⟨nm b,bA.mpr ⟨b,hb,rfl⟩,by rw[fa b hb];exact e⟩)
 refine⟨g1,g2,λa ha=>?_⟩
 obtain⟨a1,a2⟩:=g3 (nm a) (bA.mpr ⟨a,ha,rfl⟩)
 rw[fa a ha,Nat.zero_add]at a1
 obtain⟨t,t1,t2⟩:=a2 ⟨nm a,bA.mpr ⟨a,ha,rfl⟩,Nat.zero_le _⟩
 obtain⟨b,hb,rfl⟩:=bA.mp t1
 rw[fa b hb,Nat.zero_add]at t2
 exact⟨a1,b,hb,t2⟩
end
end
section
theorem nX(M:PL)(a0:Nat):∀ars:List Ar,fR M a0 ars=mB (bD ars) (lk M) a0
 |[]=>rfl
 |x::r=>by
  have ih:=nX M a0 r
  unfold fR
  show _=List.map _ (List.filter _ ((x.a,x.b)::bD r))
  by_cases h:x.a=a0
  ·rw[if_pos h,List.filter_cons_of_pos (by simpa using h),FR,ih];rfl
  ·rw[if_neg h,List.filter_cons_of_neg (by simpa using h),ih];rfl
theorem yj:∀(M:PL)(a x v:Nat),lk (rq M a x) v=if v=a then x else lk M v
 |[],a,x,v=>by
  show(if a=v then x else 0)=_
  by_cases h:v=a
  ·rw[if_pos h,if_pos h.symm]
  ·rw[if_neg h,if_neg λe=>h e.symm];rfl
 |p::M,a,x,v=>by
  unfold rq
  by_cases h:p.1=a
  ·rw[if_pos h]
   show(if p.1=v then x else lk M v)=if v=a then x else if p.1=v then p.2 else lk M v
   by_cases e:v=a
   ·rw[if_pos e,if_pos (h.trans e.symm)]
   ·rw[if_neg e,if_neg λq=>e (q.symm.trans h),if_neg λq=>e (q.symm.trans h)]
  ·rw[if_neg h]
   show(if p.1=v then p.2 else lk (rq M a x) v)=if v=a then x else if p.1=v then p.2 else lk M v
   rw[yj M a x v]
   by_cases e:v=a
   ·rw[if_pos e,if_pos e,if_neg λq=>h (q.trans e)]
   ·rw[if_neg e,if_neg e]
theorem mR:∀(M:PL)(a x:Nat),(rq M a x).map (·.1)=if a∈M.map (·.1)then M.map (·.1)else M.map (·.1)++[a]
 |[],a,x=>rfl
 |p::M,a,x=>by
  unfold rq
  by_cases h:p.1=a
  ·rw[if_pos h,if_pos (by simp[h])];rfl
  ·rw[if_neg h]
   show p.1::(rq M a x).map (·.1)=_
   rw[mR M a x]
   by_cases e:a∈M.map (·.1)
   ·rw[if_pos e,if_pos (.tail _ e)];rfl
   ·rw[if_neg e,if_neg (show¬a∈(p::M).map (·.1) fromλq=>(FY.mp q).elim (λq=>h q.symm) e)];rfl
theorem wH(M:PL)(a x:Nat)(h:(M.map (·.1)).Nodup):((rq M a x).map (·.1)).Nodup:=by
 rw[mR]
 split
 ·exact h
 ·exact List.nodup_append.mpr ⟨h,by simp,λb hb c hc e=>by rw[FW.mp hc]at e;exact ‹a∉_› (e▸hb)⟩
theorem tZ(M:PL)(a x v:Nat):v∈(rq M a x).map (·.1)↔v∈M.map (·.1)∨v=a:=by
 rw[mR]
 split
 ·exact⟨.inl,λh=>h.elim id λe=>e▸‹a∈_›⟩
 ·rw[F0,FW]
section
variable{ars:List Ar}{ρ:Nat→Nat}{ws:List Nat}(K:Rk (bD ars) ρ)(hw:∀v,v∈ws↔cv (bD ars) v)
noncomputable def jZ(ars:List Ar)(ws:List Nat)(t:Nat)(M:PL):Prop:=∀v∈ws,lv (bD ars) v<t→lk M v=lv (bD ars) v
include K hw in
theorem qa{t:Nat}{M:PL}(h:jZ ars ws t M){a:Nat}(ha:a∈ws):jZ ars ws t (cO ars M a)∧(∀v,v≠a→lk (cO ars M a) v=lk M v)∧(lv (bD ars) a≤t→lk (cO ars M a) a=lv (bD ars) a):=by
 have hx:lv (bD ars) a≤t→gZ (fR M a ars++[0])=lv (bD ars) a:=λhl=>by
  rw[nX,pO K a]
  rw[iZ λp hp e=>h p.2 ((hw _).mpr ⟨p,hp,.inr rfl⟩) (by have:=ur K hp;rw[e]at this;lia)]
 have e1:∀v,lk (cO ars M a) v=if v=a then gZ (fR M a ars++[0])else lk M v:=λv=>yj M a _ v
 refine⟨λv hv hl=>?_,λv hv=>by rw[e1,if_neg hv],λhl=>by rw[e1,if_pos rfl,hx hl]⟩
 rw[e1]
 by_cases q:v=a
 ·subst q;rw[if_pos rfl,hx (by lia)]
 ·rw[if_neg q];exact h v hv hl
include K hw in
theorem kh:∀(l:List Nat)(t:Nat)(M:PL),(∀v∈l,v∈ws)→jZ ars ws t M→(M.map (·.1)).Nodup→
  jZ ars ws t (l.foldl (cO ars) M)∧(∀v,(v∈l∧lv (bD ars) v≤t)∨(lk M v=lv (bD ars) v∧lv (bD ars) v≤t)→lk (l.foldl (cO ars) M) v=lv (bD ars) v)∧
   ((l.foldl (cO ars) M).map (·.1)).Nodup∧∀v,v∈(l.foldl (cO ars) M).map (·.1)↔v∈M.map (·.1)∨v∈l
 |[],t,M,_,h,hn=>⟨h,λv hv=>hv.elim (λq=>absurd q.1 FU) (·.1),hn,λv=>⟨.inl,λq=>q.elim id λq=>absurd q FU⟩⟩
 |a::l,t,M,hl,h,hn=>by
  obtain⟨s1,s2,s3⟩:=qa K hw h (hl a (.head _))
  obtain⟨i1,i2,i3,i4⟩:=kh l t (cO ars M a) (λv hv=>hl v (.tail _ hv)) s1 (wH M a _ hn)
  refine⟨i1,λv hv=>i2 v ?_,i3,λv=>?_⟩
  ·by_cases q:v∈l
   ·exact .inl ⟨q,hv.elim (·.2) (·.2)⟩
   ·refine .inr ⟨?_,hv.elim (·.2) (·.2)⟩
    by_cases e:v=a
    ·subst e;exact s3 (hv.elim (·.2) (·.2))
    ·rw[s2 v e]
     rcases hv with ⟨hv,_⟩|⟨hv,_⟩
     ·exact absurd ((FY.mp hv).resolve_left e) q
     ·exact hv
  ·show v∈(l.foldl (cO ars) (cO ars M a)).map (·.1)↔_
   rw[i4,show(v∈(cO ars M a).map (·.1)↔v∈M.map (·.1)∨v=a)from tZ M a _ v,FY,or_assoc]
include K hw in
theorem jE:∀(n t:Nat)(M:PL),jZ ars ws t M→(M.map (·.1)).Nodup→(∀v,v∈M.map (·.1)→v∈ws)→(n=0→∀v∈ws,v∈M.map (·.1))→
  jZ ars ws (t+n) (bS ars ws n M)∧((bS ars ws n M).map (·.1)).Nodup∧∀v,v∈(bS ars ws n M).map (·.1)↔v∈ws
 |0,t,M,h,hn,hk,h0=>⟨h,hn,λv=>⟨hk v,h0 rfl v⟩⟩
 |n+1,t,M,h,hn,hk,_=>by
  obtain⟨i1,i2,i3,i4⟩:=kh K hw ws t M (λv hv=>hv) h hn
  have r':jZ ars ws (t+1) (ws.foldl (cO ars) M):=λv hv hl=>i2 v (.inl ⟨hv,by lia⟩)
  have:=jE n (t+1) (ws.foldl (cO ars) M) r' i3 (λv hv=>((i4 v).mp hv).elim (hk v) id) (λ_ v hv=>(i4 v).mpr (.inr hv))
  rw[show t+1+n=t+(n+1)by lia]at this
  exact this
theorem lP:∀{M:PL}{p:Nat×Nat},(M.map (·.1)).Nodup→p∈M→lk M p.1=p.2
 |q::M,p,hn,hp=>by
  obtain⟨h1,h2⟩:=List.nodup_cons.mp (show(q.1::M.map (·.1)).Nodup from hn)
  show(if q.1=p.1 then q.2 else lk M p.1)=p.2
  rcases FY.mp hp with e|hp
  ·rw[if_pos (by rw[e]),e]
  ·rw[if_neg λe:q.1=p.1=>h1 (by rw[e];exact FP hp)]
   exact lP h2 hp
structure s9(L:List (Nat×Nat))(M:PL):Prop where
 nd:(M.map (·.1)).Nodup
 mem:∀v,v∈M.map (·.1)↔cv L v
 val:∀p∈M,p.2=lv L p.1
include K hw in
theorem zP(hws:6≤ws.length):s9 (bD ars) (bS ars ws ws.length []):=by
 obtain⟨h1,h2,h3⟩:=jE K hw ws.length 0 [] (λv hv h=>absurd h (Nat.not_lt_zero _)) List.nodup_nil (λv hv=>absurd hv FU) (λe=>by lia)
 refine⟨h2,λv=>(h3 v).trans (hw v),λp hp=>?_⟩
 have hv:p.1∈ws:=(h3 _).mp (FP hp)
 rw[←lP h2 hp]
 exact h1 p.1 hv (by have:=qO K ((hw _).mp hv);lia)
end
section
variable{L:List (Nat×Nat)}{ρ:Nat→Nat}(K:Rk L ρ)(h6:∀p∈L,p.1<6∧p.2<6)(hne:L≠[]){M:PL}(T:s9 L M)
include T hne in
theorem zQ:M.map (·.2)≠[]:=by
 cases L with
 |nil=>exact absurd rfl hne
 |cons p r =>
  intro e
  have h:=(T.mem p.1).mpr ⟨p,.head _,.inl rfl⟩
  rw[List.map_eq_nil_iff]at e
  rw[e]at h;cases h
include T hne in
theorem rD:(∀a,cv L a→lv L a≤gZ (M.map (·.2)))∧∃b,cv L b∧lv L b=gZ (M.map (·.2)):=by
 obtain⟨h1,h2⟩:=eW (zQ hne T)
 refine⟨λa ha=>?_,?_⟩
 ·obtain⟨p,hp,rfl⟩:=FX.mp ((T.mem a).mpr ha)
  rw[←T.val p hp]
  exact h2 _ (FP hp)
 ·obtain⟨p,hp,e⟩:=FX.mp h1
  exact⟨p.1,(T.mem _).mp (FP hp),by rw[←T.val p hp];exact e⟩
include h6 T in
theorem uq(k:Nat):(dm k M).Nodup∧∀s,s∈dm k M↔bc (dJ L) s∧fS L s=k:=by
 have hm:∀p∈M,cv L p.1:=λp hp=>(T.mem _).mp (FP hp)
 have fa:∀a,cv L a→fS L (nm a)=lv L a:=λa ha=>by show lv L (pj (nm a))=_;rw[d0 (c6 h6 ha)]
 constructor
 ·have z:∀M':PL,(∀p∈M',cv L p.1)→(M'.map (·.1)).Nodup→(M'.map λp=>nm p.1).Nodup:=λM'=>by
   induction M' with
   |nil=>intro _ _;exact List.nodup_nil
   |cons p r ih =>
    intro h1 h2
    obtain⟨a1,a2⟩:=List.nodup_cons.mp (show(p.1::r.map (·.1)).Nodup from h2)
    refine List.nodup_cons.mpr ⟨λh=>?_,ih (λq hq=>h1 q (.tail _ hq)) a2⟩
    obtain⟨q,hq,e⟩:=FX.mp h
    have:=zq (c6 h6 (h1 q (.tail _ hq))) (c6 h6 (h1 p (.head _))) e
    exact a1 (this▸FP hq)
  refine z _ (λp hp=>hm p (List.mem_filter.mp hp).1) ?_
  exact List.Sublist.nodup (List.Sublist.map (λx:Nat×Nat=>x.1) (List.filter_sublist (l:=M))) T.nd
 ·intro s
  unfold dm
  rw[FX]
  constructor
  ·rintro⟨p,hp,rfl⟩
   obtain⟨h1,h2⟩:=List.mem_filter.mp hp
   have h2:p.2=k:=by simpa using h2
   exact⟨bA.mpr ⟨p.1,hm p h1,rfl⟩,by rw[fa _ (hm p h1),←T.val p h1,h2]⟩
  ·rintro⟨h1,h2⟩
   obtain⟨a,ha,rfl⟩:=bA.mp h1
   rw[fa a ha]at h2
   obtain⟨p,hp,rfl⟩:=FX.mp ((T.mem a).mpr ha)
   exact⟨p,List.mem_filter.mpr ⟨hp,by rw[T.val p hp,h2];simp⟩,rfl⟩
include h6 T in
theorem l5:∀(m i:Nat),dw (dJ L) (fS L) i (ch M m i)∧(ch M m i).length=m
 |0,i=>⟨trivial,rfl⟩
 |m+1,i=>by
  obtain⟨h1,h2⟩:=l5 m (i+1)
  exact⟨⟨uq h6 T i,h1⟩,by show(ch M m (i+1)).length+1=m+1;rw[h2]⟩
end
noncomputable def oT:Nat→Nat
 |0=>1|1=>2|2=>5|3=>3|4=>0|_=>4
theorem zk:∀i,i<6→∀j,j<6→Spec.ltCps (nm i).cps.toList (nm j).cps.toList=decide (oT i<oT j):=by decide +kernel
theorem Bu{i j:Nat}(hi:i<6)(hj:j<6):Spec.ltCps (nm i).cps.toList (nm j).cps.toList=decide (oT i<oT j):=zk i hi j hj
theorem u0:∀i,i<6→∀j,j<6→oT i=oT j→i=j:=by decide +kernel
theorem xn{i j:Nat}(hi:i<6)(hj:j<6)(h:oT i=oT j):i=j:=u0 i hi j hj h
noncomputable abbrev yw(s:Str):Nat:=oT (pj s)
theorem lY:∀(l:List Str)(p:Str),(∀s∈p::l,∃i,i<6∧s=nm i)→risingS p l=true→(p::l).Pairwise λa b=>yw a≤yw b
 |[],p,_,_=>by simp
 |x::l,p,h,hr=>by
  unfold risingS at hr
  obtain⟨h1,h2⟩:=Bool.and_eq_true_iff.mp hr
  have ih:=lY l x (λs hs=>h s (.tail _ hs)) h2
  obtain⟨i,hi,e1⟩:=h p (.head _)
  obtain⟨j,hj,e2⟩:=h x (.tail _ (.head _))
  have hle:yw p≤yw x:=by
   rw[e1,e2,Bu hj hi]at h1
   have:¬oT j<oT i:=by simpa using h1
   show oT (pj p)≤oT (pj x)
   rw[e1,e2,d0 hi,d0 hj];omega
  refine List.pairwise_cons.mpr ⟨λb hb=>?_,ih⟩
  rcases FY.mp hb with e|hb
  ·rw[e];exact hle
  ·exact Nat.le_trans hle ((List.pairwise_cons.mp ih).1 b hb)
theorem lZ{l:List Str}(h:∀s∈l,∃i,i<6∧s=nm i)(hs:sortedS l=true):l.Pairwise λa b=>yw a≤yw b:=by
 cases l with
 |nil=>exact .nil
 |cons p l=>exact lY l p h hs
theorem sH{a b R Q:List Str}(ha:eH a R)(hb:eH b Q)(hp:R.Perm Q)(h:∀s∈R,∃i,i<6∧s=nm i):a=b:=by
 have ma:∀s∈a,∃i,i<6∧s=nm i:=λs hs=>h s (ha.1.subset hs)
 have mb:∀s∈b,∃i,i<6∧s=nm i:=λs hs=>h s (hp.symm.subset (hb.1.subset hs))
 refine List.Perm.eq_of_pairwise (le:=λa b=>yw a≤yw b) (λx y hx hy h1 h2=>?_) (lZ ma ha.2) (lZ mb hb.2) (ha.1.trans (hp.trans hb.1.symm))
 obtain⟨i,hi,rfl⟩:=ma x hx
 obtain⟨j,hj,rfl⟩:=mb y hy
 have h1:oT (pj (nm i))≤oT (pj (nm j)):=h1
 have h2:oT (pj (nm j))≤oT (pj (nm i)):=h2
 rw[d0 hi,d0 hj]at h1 h2
 rw[xn hi hj (by lia)]
theorem rc{E:List (Str×Str)}{f:Str→Nat}(hE:∀s,bc E s→∃i,i<6∧s=nm i):∀{k:Nat}{c d:List RL}{R Q:List (List Str)},dw E f k R→dw E f k Q→R.length=Q.length→bV bq c R→bV bq d Q→bE c=bE d
 |_,_,_,[],[],_,_,_,hc,hd=>by cases hc;cases hd;rfl
 |_,_,_,[],_::_,_,_,hl,_,_=>by simp at hl
 |_,_,_,_::_,[],_,_,hl,_,_=>by simp at hl
 |k,_,_,X::R,Y::Q,hR,hQ,hl,hc,hd=>by
  cases hc with
  |cons c1 c2 =>
   cases hd with
   |cons d1 d2 =>
    have hp:X.Perm Y:=(List.perm_ext_iff_of_nodup hR.1.1 hQ.1.1).mpr λs=>(hR.1.2 s).trans (hQ.1.2 s).symm
    have e:=sH c1 d1 hp λs hs=>hE s ((hR.1.2 s).mp hs).1
    have ih:=rc hE hR.2 hQ.2 (by simpa using hl) c2 d2
    show _::bE _=_::bE _
    rw[ih]
    exact congrArg (·::_) e
end
section
theorem iC{r:List (Str×Str)}{a:AN}(h:a∈cK r):bc r a.1∧a.2.2=sN r a.1:=by
 rw[my]at h
 obtain⟨s,hs,rfl⟩:=FX.mp h
 exact⟨(b0 _ _).mp hs,rfl⟩
theorem fc(r:List (Str×Str)):(cK r).map (·.1)=bf r:=by rw[my,hY]
theorem nQ(r:List (Str×Str)):(cK r).length=(bf r).length:=by rw[my];exact FQ ..
section
variable{L:List (Nat×Nat)}{ρ:Nat→Nat}(K:Rk L ρ)(h6:∀p∈L,p.1<6∧p.2<6)(hne:L≠[])
include hne in
theorem oG:bf (dJ L)≠[]:=by
 cases L with
 |nil=>exact absurd rfl hne
 |cons p r =>
  intro e
  have:=(b0 (dJ (p::r)) (nm p.1)).mpr ⟨(nm p.1,nm p.2),.head _,.inl rfl⟩
  rw[e]at this;cases this
include K h6 in
theorem A9{s:Str}(h:bc (dJ L) s):fS L s≤5:=by
 obtain⟨a,ha,rfl⟩:=bA.mp h
 show lv L (pj (nm a))≤5
 rw[d0 (c6 h6 ha)]
 exact qO K ha
include K h6 hne in
theorem p8(hE:L.length≤64):gI (dJ L) 6:=by
 refine⟨⟨λs=>10-fS L s,λa ha s hs=>?_⟩,λa ha s hs=>?_,λe=>?_,?_,(kJ K h6 hE).1,by lia⟩
 ·obtain⟨h1,h2⟩:=iC ha
  rw[h2]at hs
  have hm:=kL hs
  have:=(qQ K h6).lt _ hm
  have b:=A9 K h6 (s:=s) ⟨_,hm,.inl rfl⟩
  simp only at this⊢
  lia
 ·obtain⟨h1,h2⟩:=iC ha
  rw[h2]at hs
  rw[fc,b0]
  exact⟨_,kL hs,.inl rfl⟩
 ·have:=fc (dJ L)
  rw[e]at this
  exact oG hne this.symm
 ·rw[nQ];have:=pR h6;lia
include h6 in
theorem uD(K:Rk L ρ):∀p∈dJ L,p.1≠p.2:=λq hq e=>by
 have:=(qQ K h6).lt q hq
 rw[e]at this
 exact Nat.lt_irrefl _ this
end
theorem w4(L L':List (Nat×Nat)):dJ (L++L')=dJ L++dJ L':=FM
theorem zD{L:List (Nat×Nat)}(h6:∀p∈L,p.1<6∧p.2<6)(hne:L≠[]):qh (dJ L++dJ (L.map Prod.swap)):=by
 rw[←w4]
 have h6':∀p∈L++L.map Prod.swap,p.1<6∧p.2<6:=λp hp=>by
  rcases F0.mp hp with hp|hp
  ·exact h6 p hp
  ·obtain⟨q,hq,rfl⟩:=FX.mp hp
   exact⟨(h6 q hq).2,(h6 q hq).1⟩
 have sw:∀q∈dJ (L++L.map Prod.swap),(q.2,q.1)∈dJ (L++L.map Prod.swap):=λq hq=>by
  obtain⟨p,hp,rfl⟩:=FX.mp hq
  refine FX.mpr ⟨(p.2,p.1),?_,rfl⟩
  rcases F0.mp hp with hp|hp
  ·exact FO _ (FX.mpr ⟨p,hp,rfl⟩)
  ·obtain⟨z,hz,rfl⟩:=FX.mp hp
   exact FN _ hz
 refine⟨λa ha e=>?_,λa ha s hs=>?_,λe=>?_,?_⟩
 ·obtain⟨⟨q,hq,h⟩,h2⟩:=iC ha
  rw[h2]at e
  have:∃z∈dJ (L++L.map Prod.swap),z.2=a.1:=by
   rcases h with h|h
   ·exact⟨_,sw q hq,h.symm⟩
   ·exact⟨q,hq,h.symm⟩
  obtain⟨z,hz,ez⟩:=this
  have:z.1∈sN (dJ (L++L.map Prod.swap)) a.1:=FX.mpr ⟨z,List.mem_filter.mpr ⟨hz,by simpa using ez⟩,rfl⟩
  rw[e]at this;cases this
 ·obtain⟨_,h2⟩:=iC ha
  rw[h2]at hs
  rw[fc,b0]
  exact⟨_,kL hs,.inl rfl⟩
 ·have:=fc (dJ (L++L.map Prod.swap))
  rw[e]at this
  exact oG (L:=L++L.map Prod.swap) (by intro q;exact hne (List.append_eq_nil_iff.mp q).1) this.symm
 ·rw[nQ];have:=pR h6';lia
theorem wY{l l':List Nat}(h:l≠[])(e:∀x,x∈l↔x∈l'):gZ l=gZ l':=by
 have h':l'≠[]:=λq=>by
  obtain⟨x,hx⟩:=List.exists_mem_of_ne_nil l h
  have:=(e x).mp hx
  rw[q]at this;cases this
 obtain⟨a1,a2⟩:=eW h
 obtain⟨b1,b2⟩:=eW h'
 exact Nat.le_antisymm (b2 _ ((e _).mp a1)) (a2 _ ((e _).mpr b1))
theorem iz{L L':List (Nat×Nat)}(e:∀p,p∈L↔p∈L'):∀n a,nM L n a=nM L' n a
 |0,_=>rfl
 |n+1,a=>by
  show gZ (mB L (nM L n) a++[0])=gZ (mB L' (nM L' n) a++[0])
  refine wY (by simp) λx=>?_
  rw[F0,F0,gs,gs]
  have:(∃p∈L,p.1=a∧nM L n p.2+1=x)↔∃p∈L',p.1=a∧nM L' n p.2+1=x:=by
   constructor
   ·rintro⟨p,h1,h2,h3⟩;exact⟨p,(e p).mp h1,h2,by rw[←iz e n];exact h3⟩
   ·rintro⟨p,h1,h2,h3⟩;exact⟨p,(e p).mpr h1,h2,by rw[iz e n];exact h3⟩
  rw[this]
theorem iE{L L':List (Nat×Nat)}(e:∀p,p∈L↔p∈L')(a:Nat):cv L a↔cv L' a:=by
 unfold cv
 exact⟨λ⟨p,h1,h2⟩=>⟨p,(e p).mp h1,h2⟩,λ⟨p,h1,h2⟩=>⟨p,(e p).mpr h1,h2⟩⟩
theorem jC{E E':List (Str×Str)}{f f':Str→Nat}(h1:∀s,bc E s↔bc E' s)(h2:∀s,f s=f' s):∀{k:Nat}{l:List (List Str)},dw E f k l→dw E' f' k l
 |_,[],_=>trivial
 |k,X::l,h=>⟨⟨h.1.1,λs=>by rw[h.1.2,h1,h2]⟩,jC h1 h2 h.2⟩
theorem zZ{ars:List Ar}{ws:List Nat}(hp:ws.Perm (eP ars))(v:Nat):v∈ws↔cv (bD ars) v:=by
 rw[hp.mem_iff]
 unfold eP cv bD
 constructor
 ·intro h
  obtain⟨x,hx,h⟩:=List.mem_flatMap.mp h
  refine⟨(x.a,x.b),FP (f:=λx:Ar=>(x.a,x.b)) hx,?_⟩
  rcases FY.mp h with h|h
  ·exact .inl h
  ·exact .inr (FW.mp h)
 ·rintro⟨p,hp,h⟩
  obtain⟨x,hx,rfl⟩:=FX.mp hp
  refine List.mem_flatMap.mpr ⟨x,hx,?_⟩
  rcases h with h|h
  ·rw[h];exact .head _
  ·rw[h];exact .tail _ (.head _)
theorem zY{ars:List Ar}{ws:List Nat}(hp:ws.Perm (eP ars)):ws.length=2*ars.length:=by
 rw[hp.length_eq]
 clear hp
 unfold eP
 induction ars with
 |nil=>rfl
 |cons x r ih=>rw[List.flatMap_cons,FZ,ih];simp;lia
section
variable{A:List Ar}{L:List (Nat×Nat)}{ρ:Nat→Nat}{ws:List Nat}(hA:bD A=L)(K:Rk L ρ)(h6:∀p∈L,p.1<6∧p.2<6)(h5:5≤L.length)(hp:ws.Perm (eP A))
include hA K h5 hp in
theorem vK:s9 L (bS A ws ws.length []):=by
 subst hA
 refine zP K (zZ hp) ?_
 have:(bD A).length=A.length:=FQ ..
 rw[zY hp];lia
include hA K h5 hp in
theorem lO:gZ ((bS A ws ws.length []).map (·.2))≤50:=by
 obtain⟨_,b,hb,e⟩:=rD (by intro q;rw[q]at h5;simp at h5) (vK hA K h5 hp)
 have:=qO K hb
 lia
include hA K h6 h5 hp in
theorem ji{L':List (Nat×Nat)}(hL:∀p,p∈L'↔p∈L)(hE:L'.length≤64){c d:List RL}(hd:bV bq d (lj A ws))(hc:bV bq c (fO (dJ L') 6)):bE c=bE d:=by
 have hne:L≠[]:=by intro q;rw[q]at h5;simp at h5
 have T:=vK hA K h5 hp
 have K':Rk L' ρ:=⟨λp hp=>K.dn p ((hL p).mp hp),λp hp=>K.b5 p ((hL p).mp hp)⟩
 have h6':∀p∈L',p.1<6∧p.2<6:=λp hp=>h6 p ((hL p).mp hp)
 obtain⟨_,g2,g3⟩:=kJ K' h6' hE
 have g2:dw (dJ L) (fS L) 0 (fO (dJ L') 6):=jC (λs=>by
   rw[bA,bA]
   exact⟨λ⟨a,h1,h2⟩=>⟨a,(iE hL a).mp h1,h2⟩,λ⟨a,h1,h2⟩=>⟨a,(iE hL a).mpr h1,h2⟩⟩) (λs=>iz hL 8 _) g2
 obtain⟨r1,r2⟩:=l5 h6 T (gZ ((bS A ws ws.length []).map (·.2))+1) 0
 refine rc (E:=dJ L) (f:=fS L) (λs hs=>?_) g2 r1 ?_ hc hd
 ·obtain⟨a,ha,rfl⟩:=bA.mp hs
  exact⟨a,c6 h6 ha,rfl⟩
 ·rw[r2]
  obtain⟨m1,b,hb,e⟩:=rD hne T
  obtain⟨a1,t,ht,e2⟩:=g3 b ((iE hL b).mpr hb)
  have m2:=m1 t ((iE hL t).mp ht)
  rw[show lv L' b=lv L b from iz hL 8 b]at a1
  rw[show lv L' t=lv L t from iz hL 8 t]at e2
  lia
end
end
section
noncomputable def pr(n:Int):Nat×Nat:=((1+n.fmod 5).toNat,((n.fdiv 5).fmod (1+n.fmod 5)).toNat)
theorem uM(n:Int):(pr n).2<(pr n).1∧(pr n).1≤5∧rE n=[((pr n).1:Int),((pr n).2:Int)]:=by
 have a:=Int.fmod_nonneg_of_pos n (b:=5) (by decide)
 have b:=Int.fmod_lt_of_pos n (b:=5) (by decide)
 have c:=Int.fmod_nonneg_of_pos (n.fdiv 5) (b:=1+n.fmod 5) (by omega)
 have d:=Int.fmod_lt_of_pos (n.fdiv 5) (b:=1+n.fmod 5) (by omega)
 unfold pr rE
 refine⟨?_,?_,?_⟩
 ·show((n.fdiv 5).fmod (1+n.fmod 5)).toNat<(1+n.fmod 5).toNat
  omega
 ·show(1+n.fmod 5).toNat≤5
  omega
 ·show _=[(((1+n.fmod 5).toNat:Nat):Int),((((n.fdiv 5).fmod (1+n.fmod 5)).toNat:Nat):Int)]
  rw[Int.toNat_of_nonneg (by omega),Int.toNat_of_nonneg c]
noncomputable def cL(l:List (Nat×Nat)):List Nat:=l.flatMap λp=>[p.1,p.2]
theorem dF(p:Nat×Nat)(l:List (Nat×Nat)):cL (p::l)=p.1::p.2::cL l:=rfl
theorem rF:∀ns:List Int,iM ns=(cL (ns.map pr)).map λi:Nat=>(i:Int)
 |[]=>rfl
 |n::r=>by
  show rE n++iM r=_
  rw[(uM n).2.2,rF r,FR,dF]
  rfl
theorem on:∀l:List (Nat×Nat),(cL l).length=2*l.length
 |[]=>rfl
 |p::l=>by rw[dF,FT,FT,on l,FT];lia
theorem iH:∀l:List (Nat×Nat),dX (cL l)=l
 |[]=>rfl
 |p::l=>by rw[dF];show(p.1,p.2)::dX (cL l)=_;rw[iH l]
theorem ry:∀l:List (Nat×Nat),hV (cL l)=cL (l.map Prod.swap)
 |[]=>rfl
 |p::l=>by rw[dF,FR,dF];show p.2::p.1::hV (cL l)=_;rw[ry l];rfl
theorem tX(l m:List (Nat×Nat)):cL (l++m)=cL l++cL m:=List.flatMap_append
theorem oS:∀l:List (Nat×Nat),(cL l).reverse=cL (l.map Prod.swap).reverse
 |[]=>rfl
 |p::l=>by
  rw[dF,List.reverse_cons,List.reverse_cons,oS l,FR,List.reverse_cons,tX,FV]
  rfl
noncomputable def Dn(l:List (Nat×Nat)):Prop:=∀p∈l,p.2<p.1∧p.1≤5
section
variable{l:List (Nat×Nat)}(h:Dn l)
include h in
theorem A4:Rk l id:=⟨λp hp=>(h p hp).1,λp hp=>(h p hp).2⟩
include h in
theorem y9:∀p∈l,p.1<6∧p.2<6:=λp hp=>by have:=h p hp;omega
include h in
theorem B5:Rk (l.map Prod.swap) (5 - ·):=by
 constructor
 ·intro q hq
  obtain⟨p,hp,rfl⟩:=FX.mp hq
  have:=h p hp
  show 5-p.1<5-p.2
  omega
 ·intro q hq
  obtain⟨p,hp,rfl⟩:=FX.mp hq
  show 5-p.2≤5
  omega
include h in
theorem Ep:∀p∈l.map Prod.swap,p.1<6∧p.2<6:=λq hq=>by
 obtain⟨p,hp,rfl⟩:=FX.mp hq
 have:=y9 h p hp
 exact⟨this.2,this.1⟩
include h in
theorem CX:∀i∈cL l,i<6:=λi hi=>by
 obtain⟨p,hp,hi⟩:=List.mem_flatMap.mp hi
 have:=y9 h p hp
 rcases FY.mp hi with e|hi
 ·lia
 ·rw[FW.mp hi];lia
end
end
noncomputable def rL(is:List Nat)(h:Nat):Prop:=qb (is.map u8) (2*h) 1=is.map u8∧qb (is.map u8) h 2=(hV is).map u8∧qb (is.map u8) 1 (2*h)=(is.map u8).reverse
theorem Eg(f:Nat→Nat):rL (oB 10 f) 5:=⟨by kernel_rfl,by kernel_rfl,by kernel_rfl⟩
theorem Eh(f:Nat→Nat):rL (oB 12 f) 6:=⟨by kernel_rfl,by kernel_rfl,by kernel_rfl⟩
theorem Ei(f:Nat→Nat):rL (oB 14 f) 7:=⟨by kernel_rfl,by kernel_rfl,by kernel_rfl⟩
theorem Ej(f:Nat→Nat):rL (oB 16 f) 8:=⟨by kernel_rfl,by kernel_rfl,by kernel_rfl⟩
theorem Ek(f:Nat→Nat):rL (oB 18 f) 9:=⟨by kernel_rfl,by kernel_rfl,by kernel_rfl⟩
theorem B0{is:List Nat}{h:Nat}(e:is.length=2*h)(h5:5≤h∧h≤9):rL is h:=by
 obtain⟨f,q⟩:=pM 0 is
 rw[e]at q
 subst q
 have:h=5∨h=6∨h=7∨h=8∨h=9:=by lia
 rcases this with rfl|rfl|rfl|rfl|rfl
 ·exact Eg f
 ·exact Eh f
 ·exact Ei f
 ·exact Ej f
 ·exact Ek f
noncomputable def qc(i:Nat):List Nat:=(qn i).cps.toList
noncomputable def nc:Nat→List Nat
 |0=>[97]|1=>[98,32,99]|2=>[105,116,39,115]|3=>[100,34]|4=>[35,101]|_=>[102,92]
theorem Eo{i:Nat}(h:i<6):u (nc i)=nm i:=by
 match i,h with
 |0,_|1,_|2,_|3,_|4,_|5,_=>rfl
theorem yk{i:Nat}(h:i<6):nc i≠[]:=by
 match i,h with
 |0,_|1,_|2,_|3,_|4,_|5,_=>exact List.cons_ne_nil _ _
theorem wL{i:Nat}(h:i<6):∃q,ko (qc i)=some (nc i,q,[],true):=by
 match i,h with
 |0,_|1,_|2,_|3,_|4,_|5,_=>exact⟨_,by rfl⟩
theorem wM{i:Nat}(h:i<6)(r:List Nat):∃q,ko (qc i++32::r)=some (nc i,q,r,false):=by
 match i,h with
 |0,_|1,_|2,_|3,_|4,_|5,_=>exact⟨_,by rfl⟩
theorem uR{i:Nat}(h:i<6):(qc i).length≤10:=by
 match i,h with
 |0,_|1,_|2,_|3,_|4,_|5,_=>decide +kernel
noncomputable def wR:List Nat→List Nat
 |[]=>[]
 |[i]=>qc i
 |i::j::r=>qc i++32::wR (j::r)
theorem qM:∀(is:List Nat),is≠[]→(∀i∈is,i<6)→ca is.length (wR is)=some (is.map nc)
 |[],h,_=>absurd rfl h
 |[i],_,h6=>by
  obtain⟨q,e⟩:=wL (h6 i (.head _))
  show(match ko (qc i)with|none=>none|some (T',_,r',e)=>if T'=[]then none else if e=true then some [T']else(ca 0 r').map (T'::·))=_
  rw[e]
  show(if nc i=[]then none else _)=_
  rw[if_neg (yk (h6 i (.head _)))]
  rfl
 |i::j::r,_,h6=>by
  obtain⟨q,e⟩:=wM (h6 i (.head _)) (wR (j::r))
  show(match ko (qc i++32::wR (j::r))with|none=>none|some (T',_,r',e)=>if T'=[]then none else if e=true then some [T']else(ca (j::r).length r').map (T'::·))=_
  rw[e]
  show(if nc i=[]then none else _)=_
  rw[if_neg (yk (h6 i (.head _)))]
  show(ca (j::r).length (wR (j::r))).map (nc i::·)=_
  rw[qM (j::r) (List.cons_ne_nil _ _) λk hk=>h6 k (.tail _ hk)]
  rfl
theorem qN:∀(is:List Nat),(∀i∈is,i<6)→(wR is).length≤11*is.length
 |[],_=>Nat.le_refl _
 |[i],h=>by have:=uR (h i (.head _));show(qc i).length≤11;lia
 |i::j::r,h=>by
  have h1:=uR (h i (.head _))
  have h2:=qN (j::r) λk hk=>h k (.tail _ hk)
  show(qc i++32::wR (j::r)).length≤_
  rw[FZ,FT,FT]
  lia
theorem kr:∀is:List Nat,(eM is).cps.toList=wR is
 |[]=>rfl
 |[i]=>rfl
 |i::j::r=>by
  have ih:=kr (j::r)
  have e1:eM (i::j::r)=Str.join U1 (qn i::(j::r).map qn):=PySem.StrLaws.glued_cons U1 ((j::r).map qn) (qn i)
  have e2:eM (j::r)=Str.join U1 (qn j::r.map qn):=PySem.StrLaws.glued_cons U1 (r.map qn) (qn j)
  have e3:Str.join U1 (qn i::(j::r).map qn)=qn i++U1++Str.join U1 (qn j::r.map qn):=rfl
  rw[e1,e3,←e2]
  show((qn i).cps++U1.cps++(eM (j::r)).cps).toList=qc i++32::wR (j::r)
  rw[Array.toList_append,Array.toList_append,ih,FV]
  rfl
theorem wS{is:List Nat}(h:∀i∈is,i<6):(eM is).length≤11*is.length:=by
 have:(eM is).length=(eM is).cps.toList.length:=rfl
 rw[this,kr]
 exact qN is h
theorem uB{is:List Nat}(h:∀i∈is,i<6):(is.map nc).map u=is.map nm:=by
 rw[List.map_map]
 exact List.map_congr_left λi hi=>Eo (h i hi)
noncomputable def zr:List Nat→Nat→Nat
 |[],_=>0
 |a::_,0=>a
 |_::l,i+1=>zr l i
noncomputable def κs(t i:Nat):Nat:=t+zr [36,38,40,42,45,48,57,59,62,65,68,71,73,76,79,82,84,86,90] i
noncomputable def νs(t i:Nat):Nat:=t+zr [0,0,0,0,96,52,55,0,60,63,66,0,0,74,77,0,0,0,87] i
structure j0 where
 l:Nat
 e:Nat
 ps:List SV
theorem nC{w:World}{S:Str}{k n:Nat}{toks:List (List Nat)}(hS:S.length≤1000)(hL:ca n S.cps.toList=some toks)(hn:toks.length≤1000):
  aR w 7 none [] (.call (.ref 871) ⟨[.str S k],[]⟩) [] (X:=j0) (λ_ x=>x.ps.map (·.1)=toks.map u) (λx=>.ok (.ret (.ref (x.l+937)))) (λx=>[(x.l+937,aa (x.ps.map sv) x.e)]):=by
 have z:aR w 7 none [] (.call (.ref 871) ⟨[.str S k],[]⟩) ([]++[]) (X:=j0) (λ_ x=>x.ps.map (·.1)=toks.map u) (λx=>.ok (.ret (.ref (x.l+937)))) (λx=>[(x.l+937,aa (x.ps.map sv) x.e)]):=by
  refine aZ [] [] λA R d os hb m0 g tk b outer Z F E N=>?_
  refine ex F Z 16 285942833479680 ?_
  intro sS
  refine ex F Z 83 0x104104104104104000000000003003000000000000000000000000000000000000000000041001 ?_
  intro sS
  refine ex F Z 76 0x1c71c71c7000000000000000000000000000000000000004000004000 ?_
  intro sS
  refine ex F Z 97 0x28a28a28a000000000009009000000000000000000000000000000000000000000000000000000007000007000007 ?_
  intro sS
  refine ex F Z 215 0xb2cb2c000028824000000900000000000900000000000928a20820024000000000024024024000000000024a20820024000000000024024024000000000024a20820024000000000024024024000000000024a28000a0002bf2bf28a00028000a ?_
  intro sS
  refine ks F 866 0x400020820030000030030030000030410820800c00000c00c00c00000c104110208200300000300300300000310410410208200300000300300300000310208200300000300300300000310d34d34d3400820800c00000c00c00c00000c40820800c00000c00c00c00000c40820800c00000c00c00c00000c40820800c00000c00c00c00000c430c30c30c0020820030000030030030000031020820030000030030030000031020820030000030030030000031020820030000030030030000031020820030000030030030000031020820030000030030030000031020820030000030030030000030800c30000030000031020030c00000c00000c40820800c00000c00c00c00000c40820800c00000c00c00c00000c40820800c00000c00c00c00000c41020820030000030030030000031040820800c00000c00c00c00000c410208200300000300300300000310410410820800900000000000900900900000000000928bfcbfcb2cb2c800924000000000024000000000024b (by kernel_rfl) (by kernel_rfl) (λp below=>by kernel_rfl) ?_
  refine da F 4 910 ?_
  intro sS
  refine aw [0] [13,2,1,8,7,11,12] ([(b+950,aa [] 0)]++cH w.params (κs tk) (νs tk) (b+2) (b+1) (b+8) (b+7) (b+11) (b+12) (tk+19) (tk+22) (tk+25) 951 k (tk+23) S 0 (.str U1 (tk+69)) (.str (u []) (tk+80)) 19 3) [] ([(b+950,aa [] 0)]++cH w.params (κs tk) (νs tk) (b+2) (b+1) (b+8) (b+7) (b+11) (b+12) (tk+19) (tk+22) (tk+25) 951 k (tk+23) S 0 (.str U1 (tk+69)) (.str (u []) (tk+80)) 19 3) (by rw[FK];exact FL _) ?_
  intro sS
  refine cn (L':=6) (hd':=none) F Z N 0 0 [] ([(b+950,aa [] 0)]++cH w.params (κs tk) (νs tk) (b+2) (b+1) (b+8) (b+7) (b+11) (b+12) (tk+19) (tk+22) (tk+25) 951 k (tk+23) S 0 (.str U1 (tk+69)) (.str (u []) (tk+80)) 19 3) [] (λ(y:List SV×Nat)=>[]) (λ(y:List SV×Nat)=>[(b+950,aa (y.1.map sv) y.2)]) (λ_=>[]) (se (l:=b+13) hS rfl (Nat.zero_le _) hL hn) [] 0 (bH 871 (BG w.params) b) (b+937) (df [de w.params (u [115]) tk (.str S k),de w.params (u [99,111,109,109,101,110,116,115]) (tk+1) (.bool false),de w.params (u [112,111,115,105,120]) (tk+2) (.bool true),de w.params (u [108,101,120]) (tk+93) (.ref (b+939))] 4 ⟨[]⟩) (by rw[FK]) λ(y:List SV×Nat)m1 kk1 g1 σ hC=>?_
  intro sS
  exact fx F E 2 0 [1] ⟨b+13,y.2,y.1⟩ _ [] [] (FL _) (FK _).symm hC
 exact z
theorem zC{w:World}{y x ac lo lc ex t1 t2 t3 n1 n2 n3:Nat}{S1 S2 S3:Str}{T1 T2 T3:List (List Nat)}(hS1:S1.length≤1000)(hS2:S2.length≤1000)(hS3:S3.length≤1000)
  (hL1:ca n1 S1.cps.toList=some T1) (hL2:ca n2 S2.cps.toList=some T2) (hL3:ca n3 S3.cps.toList=some T3) (hn1:T1.length≤1000) (hn2:T2.length≤1000) (hn3:T3.length≤1000):
  aR w 8 none [] (pP Code.compStart w.params yu y ac lo lc) [(y+937,ai (x+937) 0),(x+937,aa [.str S1 t1,.str S2 t2,.str S3 t3] ex),(ac+937,aa [] 0),(lc+937,ae [] 0)]
   (X:=mt) (λ_ r=>r.s1.map (·.1)=T1.map u∧r.s2.map (·.1)=T2.map u∧r.s3.map (·.1)=T3.map u) (λ_=>.ok .next)
   (λr=>[(y+937,av 3),(x+937,aa [.str S1 t1,.str S2 t2,.str S3 t3] ex),(ac+937,aa [.ref (r.a1+937),.ref (r.a2+937),.ref (r.a3+937)] 3),(lc+937,ae [de w.params Ch r.q (.str S3 t3)] 1)]++[(r.a1+937,aa (r.s1.map sv) r.e1),(r.a2+937,aa (r.s2.map sv) r.e2),(r.a3+937,aa (r.s3.map sv) r.e3)]):=by
 have SP1:=λ(w:World)(k:Tok)=>nC (w:=w) (k:=k) hS1 hL1 hn1
 have SP2:=λ(w:World)(k:Tok)=>nC (w:=w) (k:=k) hS2 hL2 hn2
 have SP3:=λ(w:World)(k:Tok)=>nC (w:=w) (k:=k) hS3 hL3 hn3
 obtain⟨v,b1,b2,b3,rfl⟩:=al w
 have z:aR (ay v b1 b2 b3) 8 none [] (pP Code.compStart (ay v b1 b2 b3).params yu y ac lo lc) ([(y+937,ai (x+937) 0),(x+937,aa [.str S1 t1,.str S2 t2,.str S3 t3] ex),(ac+937,aa [] 0),(lc+937,ae [] 0)]++[])
   (X:=mt) (λ_ r=>r.s1.map (·.1)=T1.map u∧r.s2.map (·.1)=T2.map u∧r.s3.map (·.1)=T3.map u) (λ_=>.ok .next)
   (λr=>[(y+937,av 3),(x+937,aa [.str S1 t1,.str S2 t2,.str S3 t3] ex),(ac+937,aa [.ref (r.a1+937),.ref (r.a2+937),.ref (r.a3+937)] 3),(lc+937,ae [de (ay v b1 b2 b3).params Ch r.q (.str S3 t3)] 1)]++[(r.a1+937,aa (r.s1.map sv) r.e1),(r.a2+937,aa (r.s2.map sv) r.e2),(r.a3+937,aa (r.s3.map sv) r.e3)]):=by
  refine mc ?_ (λb tk=>by refine Bool.rec ?_ ?_ b2<;>kernel_rfl)
  refine aZ [(y+937,ai (x+937) 0),(x+937,aa [.str S1 t1,.str S2 t2,.str S3 t3] ex),(ac+937,aa [] 0),(lc+937,ae [] 0)] [] λA R d os hb m0 g tk b outer Z F E N=>?_
  refine c0 (L':=7) (hd':=none) F Z N 24 0x4004101042041041 [] [] [] (λ(r1:j0)=>[]) (λ(r1:j0)=>[(r1.l+937,aa (r1.ps.map sv) r1.e)]) (λ_=>[]) (SP1 _ t1) [] (FL _) λ(r1:j0)m1 kk1 g1 hr1=>?_
  intro sS
  refine c0 (L':=7) (hd':=none) F Z N 33 0x40041010420410410c30c3 [] [] [] (λ(r2:j0)=>[]) (λ(r2:j0)=>[(r2.l+937,aa (r2.ps.map sv) r2.e)]) (λ_=>[]) (SP2 _ t2) [] (FL _) λ(r2:j0)m2 kk2 g2 hr2=>?_
  intro sS
  refine c0 (L':=7) (hd':=none) F Z N 33 0x40041010420410410c30c3 [] [] [] (λ(r3:j0)=>[]) (λ(r3:j0)=>[(r3.l+937,aa (r3.ps.map sv) r3.e)]) (λ_=>[]) (SP3 _ t3) [] (FL _) λ(r3:j0)m3 kk3 g3 hr3=>?_
  intro sS
  exact fx F E 25 0x2410420410410c30c3 [0,1,2,3,4,5,6] ⟨r1.l,r2.l,r3.l,r1.ps,r2.ps,r3.ps,r1.e,r2.e,r3.e,tk⟩ _ [] [] (FL _) (FK _).symm ⟨hr1,hr2,hr3⟩
 rwa[FK]at z
noncomputable abbrev fX(P:Params)(lo:Nat):Env:={fW P lo with cells:=[(u [116,97,112,101],lo+938)]}
noncomputable abbrev x7(env:Env)(x:Sem Flow):Sem PySem.Fin:=PySem.W.R.bindR (PySem.W.R.onRaiseR x (PySem.W.Fast.tw9442747609961115081 env)) λf=>match f with
 |.ret v=>PySem.W.Fast.tw6905046200447255374 v
 |_=>PySem.W.Fast.tw6905046200447255374 .none
noncomputable abbrev AX(l r:Value)(x:Sem Value):Sem Flow:=PySem.W.R.bindR (PySem.W.Fast.tw8004119333741010377 [l,r] x) λv=>.pure (.ret v)
noncomputable abbrev wW(i:Nat)(env:Env)(x:Sem Bool):Sem PySem.Fin:=x7 env (j4 ((aE (aj 44)).drop (i+1)) env (E5 (tT (gW i)) (tU (gW i)) env x))
noncomputable abbrev A0(env:Env)(a b:Addr)(x:Sem Value):Sem PySem.Fin:=wW 4 env (Cl (nj (jc (gW 4)) 1) default env (nY (.ref a) (.ref b) x))
noncomputable abbrev A2(env:Env)(a b:Addr)(x:Sem Value):Sem PySem.Fin:=wW 4 env (Cl (nj (jc (gW 4)) 2) default env (nY (.ref a) (.ref b) x))
noncomputable abbrev CT(env:Env)(a b:Addr)(x:Sem Value):Sem PySem.Fin:=wW 7 env (nY (.ref a) (.ref b) x)
noncomputable abbrev CU(env:Env)(a b:Addr)(x:Sem Value):Sem PySem.Fin:=wW 9 env (Cl (nj (jc (gW 9)) 1) default env (nY (.ref a) (.ref b) x))
noncomputable abbrev AZ(env:Env)(a b:Addr)(x:Sem Value):Sem PySem.Fin:=x7 env (j4 [] env (AX (.ref a) (.ref b) x))
theorem zS(env:Env)(a b:Addr):mu (A0 env a b):=⟨λk=>by kernel_rfl,λm=>by kernel_rfl⟩
theorem zT(env:Env)(a b:Addr):mu (A2 env a b):=⟨λk=>by kernel_rfl,λm=>by kernel_rfl⟩
theorem B1(env:Env)(a b:Addr):mu (CT env a b):=⟨λk=>by kernel_rfl,λm=>by kernel_rfl⟩
theorem B2(env:Env)(a b:Addr):mu (CU env a b):=⟨λk=>by kernel_rfl,λm=>by kernel_rfl⟩
theorem zR(env:Env)(a b:Addr):mu (AZ env a b):=⟨λk=>by kernel_rfl,λm=>by kernel_rfl⟩
theorem ud{w:World}{x ep:Nat}{is:List Nat}{ps:List IV}(hp:iM (ps.map (·.1))=is.map (λi:Nat=>(i:Int)))(hi:∀i∈is,i<6)(hl6:is.length≤100)(hl:([]:List IV).length+2*ps.length≤100):Spec w 3 none (.call (.ref 893) ⟨[.ref (x+937)],[]⟩) [(x+937,aa (ps.map iv) ep)]
  (X:=xT) (λ_ _=>True) (λr=>.ok (.ret (.bytes ⟨is.map u8⟩ r.t))) (λ_=>[(x+937,aa (ps.map iv) ep)]):=by
 refine ak λA R d os hb m0 g tk b Z F E=>?_
 refine ex F Z 7 532480 ?_
 intro sS
 refine cx (post:=λ(r:Ca)=>[(b+2+937,av r.j),(b+937,vM w.params tk (tk+1) x (b+1) r.o r.ee),(x+937,aa (ps.map iv) ep),(b+1+937,aa (r.ls.map iv) r.ez)]) (L':=1) (hd':=none) F Z 25 17728568303746 (sM (y:=b+2) (z:=b+1) (lo:=b) (q1:=tk) (q2:=tk+1) ps 0 [] none 2 0 rfl hl) [3,1,0,2] λ(r:Ca)m1 kk1 g1 hr=>?_
 intro sS
 refine da F 9 8192 ?_
 intro sS
 have hr':r.ls.map (·.1)=is.map (λi:Nat=>(i:Int)):=(show r.ls.map (·.1)=[]++iM (ps.map (·.1))from hr).trans hp
 refine cx (L':=1) (hd':=none) F Z 0 0 (lC (x:=b+1) (ep:=r.ez) (ps:=r.ls) (is:=is) hr' hi hl6) [2] λ(q:xT)m2 kk2 g2 _=>?_
 intro sS
 exact fx F E 5 0 [0] q _ [] [] (FL _) (FK _).symm trivial
theorem Br{w:World}{x ep h n1 n2 n3 k1 k2 k3:Nat}{ps:List IV}{is:List Nat}{T1 T2 T3:List (List Nat)}
  (hps:ps.length≤1000) (hT:iM ([0,6,12,2,8]++(ps.take 4).map (·.1))=is.map λi:Nat=>(i:Int))
  (hi6:∀i∈is,i<6) (hl:is.length=2*h) (h5:5≤h∧h≤9)
  (hsw:qb (is.map u8) (2*h) 1=is.map u8∧qb (is.map u8) h 2=(hV is).map u8∧qb (is.map u8) 1 (2*h)=(is.map u8).reverse)
  (hS1:(eM is).length≤1000) (hS2:(eM (hV is)).length≤1000) (hS3:(eM is.reverse).length≤1000)
  (hL1:ca n1 (eM is).cps.toList=some T1) (hL2:ca n2 (eM (hV is)).cps.toList=some T2) (hL3:ca n3 (eM is.reverse).cps.toList=some T3)
  (hT1:T1.map u=is.map nm) (hT2:T2.map u=(hV is).map nm) (hT3:T3.map u=is.reverse.map nm)
  (hn1:∀p∈dJ (dX is),p.1≠p.2) (hn2:∀p∈dJ (dX (hV is)),p.1≠p.2) (hn3:∀p∈dJ (dX is.reverse),p.1≠p.2)
  (ok1:gI (dJ (dX is)) k1) (ok2:gI (dJ (dX (hV is))) k2) (ok3:gI (dJ (dX is.reverse)) k3)
  (hRf:qh (dJ (dX is)++dJ (dX (hV is))))
  (hB1:∀A:List Ar,bD A=dX is→∀ws:List Nat,ws.Perm (eP A)→ws.Pairwise (·≤·)→gZ ((bS A ws ws.length []).map (·.2))≤50)
  (hB2:∀A:List Ar,bD A=dX (hV is)→∀ws:List Nat,ws.Perm (eP A)→ws.Pairwise (·≤·)→gZ ((bS A ws ws.length []).map (·.2))≤50)
  (hF1:∀(A:List Ar)(ws:List Nat)(c d:List RL),bD A=dX is→ws.Perm (eP A)→ws.Pairwise (·≤·)→bV bq d (lj A ws)→bV bq c (fO (dJ (dX is)) k1)→bE c=bE d)
  (hF2:∀(A:List Ar)(ws:List Nat)(c d:List RL),bD A=dX (hV is)→ws.Perm (eP A)→ws.Pairwise (·≤·)→bV bq d (lj A ws)→bV bq c (fO (dJ (dX (hV is))) k2)→bE c=bE d)
  (hF3:∀(A:List Ar)(ws:List Nat)(c d:List RL),bD A=dX (hV is)→ws.Perm (eP A)→ws.Pairwise (·≤·)→bV bq d (lj A ws)→bV bq c (fO (dJ (dX is.reverse)) k3)→bE c=bE d):
  s7 w 9 none (.call (.ref 936) ⟨[.ref (x+937)],[]⟩) [(x+937,aa (ps.map iv) ep),(873,oH w.params)] (X:=Nat) (λ_ _=>True) (λ_=>.ok (.ret (.bool true))) (λc=>[(x+937,aa (ps.map iv) ep),(873,nG (c+937))]):=by
 obtain⟨n,en⟩:∃n,n=2*h:=⟨_,rfl⟩
 obtain⟨js,ej⟩:∃js,js=hV is:=⟨_,rfl⟩
 rw[←ej]at hsw hS2 hL2 hT2 hn2 ok2 hRf hB2 hF2 hF3
 rw[←en]at hsw
 have hlj:js.length=2*h:=by rw[ej,vD hl,hl]
 have hj6:∀j∈js,j<6:=λj hj=>hi6 j ((vE hl j).mp (ej▸hj))
 have hk6:∀i∈is.reverse,i<6:=λi hi=>hi6 i (List.mem_reverse.mp hi)
 have hlk:is.reverse.length=2*h:=by rw[List.length_reverse,hl]
 have hz2:∀tk,((tL tk).map iv).length+((ps.take 4).map iv).length≤sizeLine:=λtk=>by
  rw[FQ,FQ,sizeLine_eq,List.length_take]
  show 5+_≤_
  lia
 have htp:∀tk,iM ((tL tk++ps.take 4).map (·.1))=is.map λi:Nat=>(i:Int):=λtk=>by rw[FM];exact hT
 have hq:∀tk,([]:List IV).length+2*(tL tk++ps.take 4).length≤100:=λtk=>by
  rw[FZ,List.length_take]
  show 0+2*(5+_)≤_
  lia
 have hl100:is.length≤100:=by lia
 have hcl:(is.map u8).length=n:=by rw[FQ];lia
 have hsz:(⟨is.map u8⟩:Array UInt8).size=n:=hcl
 have hn:n≤1000:=by lia
 have hpy:Builtin.divisionGoesByPylong ((n:Nat)-0) 2=false:=PyProof.noPylong_small (by lia)
 have hrs:Builtin.Range.small 0 (n:Nat) 2=true∧Builtin.Range.rangeSize 0 (n:Nat) 2=(h:Nat):=gj (m:=h) (wd:=2) (n:=n) (by lia) (by lia) hn (by lia)
 have HT:((is.map u8).length=n∧0<n∧n≤1000∧n=h*2)∧qb (is.map u8) n 1=is.map u8∧qb (is.map u8) h 2=js.map u8∧qb (is.map u8) 1 n=(is.map u8).reverse:=⟨⟨hcl,by lia,hn,by lia⟩,hsw⟩
 have hc1000:(is.map u8).length≤1000:=by lia
 have hch:(is.map u8).length=2*h:=by lia
 have hh0:h≠0:=by lia
 have hh100:h≤100:=by lia
 have hP:∀r9:k7,bD r9.A=aY (is.map u8)→bD r9.A=dX is:=λr hr=>hr.trans (uJ hl hi6)
 have hPl:∀r9:k7,bD r9.A=aY (is.map u8)→r9.A.length=h:=λr hr=>by have:=congrArg List.length (hP r hr);rw[qX hl]at this;exact(FQ ..).symm.trans this
 have hA2:∀r9:k7,bD r9.A=aY (is.map u8)→2*r9.A.length≤100:=λr hr=>by rw[hPl r hr];lia
 have hA3:∀r9:k7,bD r9.A=aY (is.map u8)→r9.A.length≤100:=λr hr=>by rw[hPl r hr];lia
 have hA9:∀r9:k7,bD r9.A=aY (is.map u8)→r9.A.length≤9:=λr hr=>by rw[hPl r hr];lia
 have hAne:∀r9:k7,bD r9.A=aY (is.map u8)→r9.A≠[]:=λr hr e=>by have:=hPl r hr;rw[e]at this;exact hh0 this.symm
 have hA6:∀r9:k7,bD r9.A=aY (is.map u8)→∀x∈r9.A,x.a<6∧x.b<6:=λr hr x hx=>by
  have hm:(x.a,x.b)∈bD r.A:=FP (f:=λx:Ar=>(x.a,x.b)) hx
  rw[hP r hr]at hm
  exact⟨hi6 _ (jV hl _ hm).1,hi6 _ (jV hl _ hm).2⟩
 have hB9:∀r9:k7,bD r9.A=aY (is.map u8)→∀ws:List Nat,ws.Perm (eP r9.A)→ws.Pairwise (·≤·)→gZ ((bS r9.A ws ws.length []).map (·.2))≤50:=λr hr=>hB1 _ (hP r hr)
 have hjs:∀r9:k7,bD r9.A=aY (is.map u8)→(r9.A.flatMap vW).map (·.1)=js:=λr hr=>(yD hl (hP r hr)).trans ej.symm
 have hjl:js.length≤100:=by lia
 have htl:jY (is.map u8).length:=by unfold jY;lia
 have hb6:∀{l:List Nat},(∀i∈l,i<6)→∀c∈l.map u8,c.toNat<6:=λh c hc=>by
  obtain⟨i,hi,rfl⟩:=FX.mp hc
  rw[nH (h i hi)];exact h i hi
 have hb1:=hb6 hi6
 have hb2:=hb6 hj6
 have hb3:∀c∈(is.map u8).reverse,c.toNat<6:=λc hc=>hb1 c (List.mem_reverse.mp hc)
 have hbl1:(is.map u8).length≤100:=by lia
 have hbl2:(js.map u8).length≤100:=by rw[FQ];lia
 have hbl3:(is.map u8).reverse.length≤100:=by rw[List.length_reverse];lia
 have nn:∀{l:List UInt8},l.length=2*h→l≠[]:=λe q=>by rw[q]at e;have:0=2*h:=e;lia
 have hbn1:is.map u8≠[]:=nn hch
 have hbn2:js.map u8≠[]:=nn (by rw[FQ];lia)
 have hbn3:(is.map u8).reverse≠[]:=nn (by rw[List.length_reverse];lia)
 have nms:∀r:mt,(r.s1.map (·.1)=fY (is.map u8)∧r.s2.map (·.1)=fY (js.map u8)∧r.s3.map (·.1)=fY (is.map u8).reverse)→r.s1.map (·.1)=is.map nm∧r.s2.map (·.1)=js.map nm∧r.s3.map (·.1)=is.reverse.map nm:=λr hr=>by
  rw[pQ hi6,pQ hj6,←List.map_reverse,pQ hk6]at hr
  exact hr
 have hm1:=λr hr=>(nms r hr).1
 have hm2:=λr hr=>(nms r hr).2.1
 have hm3:=λr hr=>(nms r hr).2.2
 have hi18:is.length≤18:=by lia
 have hj18:js.length≤18:=by lia
 have hk18:is.reverse.length≤18:=by lia
 have tl:∀{T:List (List Nat)}{l:List Nat},T.map u=l.map nm→l.length=2*h→T.length≤1000:=λe hl=>by
  have:=congrArg List.length e
  rw[FQ,FQ]at this
  lia
 have hN1:=tl hT1 hl
 have hN2:=tl hT2 hlj
 have hN3:=tl hT3 hlk
 have rds:∀r:mt,(r.s1.map (·.1)=T1.map u∧r.s2.map (·.1)=T2.map u∧r.s3.map (·.1)=T3.map u)→r.s1.map (·.1)=is.map nm∧r.s2.map (·.1)=js.map nm∧r.s3.map (·.1)=is.reverse.map nm:=λr hr=>by
  rw[hT1,hT2,hT3]at hr
  exact hr
 have hsame:∀r15 r19:mt,(r15.s1.map (·.1)=fY (is.map u8)∧r15.s2.map (·.1)=fY (js.map u8)∧r15.s3.map (·.1)=fY (is.map u8).reverse)→(r19.s1.map (·.1)=T1.map u∧r19.s2.map (·.1)=T2.map u∧r19.s3.map (·.1)=T3.map u)→r19.s1.map (·.1)=r15.s1.map (·.1)∧r19.s2.map (·.1)=r15.s2.map (·.1)∧r19.s3.map (·.1)=r15.s3.map (·.1):=λr q hr hq=>by
  obtain⟨a1,a2,a3⟩:=nms r hr
  obtain⟨b1,b2,b3⟩:=rds q hq
  exact⟨b1.trans a1.symm,b2.trans a2.symm,b3.trans a3.symm⟩
 have hR1:∀r:mt,(r.s1.map (·.1)=T1.map u∧r.s2.map (·.1)=T2.map u∧r.s3.map (·.1)=T3.map u)→qi r.s1 k1:=λr hr=>p0 (rds r hr).1 hl h5 hn1 ok1
 have hR2:∀r:mt,(r.s1.map (·.1)=T1.map u∧r.s2.map (·.1)=T2.map u∧r.s3.map (·.1)=T3.map u)→qi r.s2 k2:=λr hr=>p0 (rds r hr).2.1 hlj h5 hn2 ok2
 have hR3:∀r:mt,(r.s1.map (·.1)=T1.map u∧r.s2.map (·.1)=T2.map u∧r.s3.map (·.1)=T3.map u)→qi r.s3 k3:=λr hr=>p0 (rds r hr).2.2 hlk h5 hn3 ok3
 have sl:∀{s:List SV}{l:List Nat},s.map (·.1)=l.map nm→s.length=l.length:=λe=>by
  have:=congrArg List.length e
  rw[FQ,FQ]at this
  exact this
 have hz21:∀r:mt,(r.s1.map (·.1)=T1.map u∧r.s2.map (·.1)=T2.map u∧r.s3.map (·.1)=T3.map u)→(r.s1.map sv).length+(r.s2.map sv).length≤sizeLine:=λr hr=>by
  rw[FQ,FQ,sl (rds r hr).1,sl (rds r hr).2.1,sizeLine_eq]
  lia
 have hSP:∀r:mt,(r.s1.map (·.1)=T1.map u∧r.s2.map (·.1)=T2.map u∧r.s3.map (·.1)=T3.map u)→(r.s1++r.s2=cE (aD r.s1++aD r.s2))∧(((aD r.s1++aD r.s2).length=5∨(aD r.s1++aD r.s2).length=6∨(aD r.s1++aD r.s2).length=7∨(aD r.s1++aD r.s2).length=8∨(aD r.s1++aD r.s2).length=9∨(aD r.s1++aD r.s2).length=10∨(aD r.s1++aD r.s2).length=12∨(aD r.s1++aD r.s2).length=14∨(aD r.s1++aD r.s2).length=16∨(aD r.s1++aD r.s2).length=18))∧(∀p∈aD r.s1++aD r.s2,p.1.1≠p.2.1):=λr hr=>by
  have e1:=(jW (s:=r.s1) (h:=h) (by rw[sl (rds r hr).1];lia))
  have e2:=(jW (s:=r.s2) (h:=h) (by rw[sl (rds r hr).2.1];lia))
  refine⟨?_,?_,λp hp=>?_⟩
  ·have fa:∀a b:List (SV×SV),cE (a++b)=cE a++cE b:=λa b=>by
    induction a with
    |nil=>rfl
    |cons p a ih=>show p.1::p.2::cE (a++b)=p.1::p.2::(cE a++cE b);rw[ih]
   rw[fa,←e1.1,←e2.1]
  ·rw[FZ,e1.2,e2.2];lia
  ·exact(F0.mp hp).elim ((hR1 r hr).ne p) ((hR2 r hr).ne p)
 have hRF:∀r:mt,(r.s1.map (·.1)=T1.map u∧r.s2.map (·.1)=T2.map u∧r.s3.map (·.1)=T3.map u)→qh (jT (aD r.s1++aD r.s2)):=λr hr=>by
  have:jT (aD r.s1++aD r.s2)=jT (aD r.s1)++jT (aD r.s2):=FM
  rw[this,kF (rds r hr).1,kF (rds r hr).2.1]
  exact hRf
 have hQ:∀r9:k7,bD r9.A=aY (is.map u8)→∀r25:sR,bD r25.A=(bD r9.A).map Prod.swap→bD r25.A=dX js:=λr hr q hq=>by rw[hq,hP r hr,ej,zy hl]
 have hQl:∀r9:k7,bD r9.A=aY (is.map u8)→∀r25:sR,bD r25.A=(bD r9.A).map Prod.swap→r25.A.length=h:=λr hr q hq=>by have:=congrArg List.length (hQ r hr q hq);rw[qX hlj]at this;exact(FQ ..).symm.trans this
 have hQne:∀r9:k7,bD r9.A=aY (is.map u8)→∀r25:sR,bD r25.A=(bD r9.A).map Prod.swap→r25.A≠[]:=λr hr q hq e=>by have:=hQl r hr q hq;rw[e]at this;exact hh0 this.symm
 have hQ9:∀r9:k7,bD r9.A=aY (is.map u8)→∀r25:sR,bD r25.A=(bD r9.A).map Prod.swap→r25.A.length≤9:=λr hr q hq=>by rw[hQl r hr q hq];lia
 have hQ6:∀r9:k7,bD r9.A=aY (is.map u8)→∀r25:sR,bD r25.A=(bD r9.A).map Prod.swap→∀x∈r25.A,x.a<6∧x.b<6:=λr hr q hq x hx=>by
  have hm:(x.a,x.b)∈bD q.A:=FP (f:=λx:Ar=>(x.a,x.b)) hx
  rw[hQ r hr q hq]at hm
  exact⟨hj6 _ (jV hlj _ hm).1,hj6 _ (jV hlj _ hm).2⟩
 have hQB:∀r9:k7,bD r9.A=aY (is.map u8)→∀r25:sR,bD r25.A=(bD r9.A).map Prod.swap→∀ws:List Nat,ws.Perm (eP r25.A)→ws.Pairwise (·≤·)→gZ ((bS r25.A ws ws.length []).map (·.2))≤50:=λr hr q hq=>hB2 _ (hQ r hr q hq)
 have hfin:∀r9:k7,bD r9.A=aY (is.map u8)→∀r25:sR,bD r25.A=(bD r9.A).map Prod.swap→∀r:mt,(r.s1.map (·.1)=T1.map u∧r.s2.map (·.1)=T2.map u∧r.s3.map (·.1)=T3.map u)→∀r24:s5,(∃ws,ws.Perm (eP r9.A)∧ws.Pairwise (·≤·)∧bV bq r24.acc (lj r9.A ws))→∀r26:s5,(∃ws,ws.Perm (eP r25.A)∧ws.Pairwise (·≤·)∧bV bq r26.acc (lj r25.A ws))→
   ∀z:yK,(bV bq z.c1 (fO (jT (aD r.s1)) k1)∧bV bq z.c2 (fO (jT (aD r.s2)) k2)∧bV bq z.c3 (fO (jT (aD r.s3)) k3))→bE z.c1=bE r24.acc∧bE z.c2=bE r26.acc∧bE z.c3=bE r26.acc:=by
  rintro r9 h9 r25 h25 r hr r24 ⟨ws,p1,p2,p3⟩ r26 ⟨ws',q1,q2,q3⟩ z ⟨z1,z2,z3⟩
  rw[kF (rds r hr).1]at z1
  rw[kF (rds r hr).2.1]at z2
  rw[kF (rds r hr).2.2]at z3
  exact⟨hF1 _ _ _ _ (hP r9 h9) p1 p2 p3 z1,hF2 _ _ _ _ (hQ r9 h9 r25 h25) q1 q2 q3 z2,hF3 _ _ _ _ (hQ r9 h9 r25 h25) q1 q2 q3 z3⟩
 clear hT hl h5 hsw hT1 hT2 hT3 hn1 hn2 hn3 ok1 ok2 ok3 hRf hB1 hB2 hF1 hF2 hF3 hP hPl hQ hQl nms rds sl tl nn hb6 hcl hlj hlk ej en
 obtain⟨v,b1,b2,b3,rfl⟩:=al w
 refine vr λA R d os hb m0 g tk b outer Z F E N=>?_
 refine E8 F Z 8 798720 ?_
 intro sS
 refine Ac (L':=0) (hd':=none) F Z 20 17043648 (zJ (x:=x) (y:=b+3) (ep:=ep) (t:=tk+6) (ps:=ps) hps) [0,5] λsl m1 kk1 g1 _=>?_
 intro sS
 refine Ac (L':=0) (hd':=none) F Z 6 20933 (iy (x:=b+2) (y:=sl) (ep:=0) (ep':=0) (vs:=(tL tk).map iv) (us:=(ps.take 4).map iv) (hz2 tk)) [4,6] λad m2 kk2 g2 _=>?_
 intro sS
 refine Ac (L':=3) (hd':=none) F Z 3 0 (ud (x:=ad) (ep:=0) (is:=is) (ps:=tL tk++ps.take 4) (htp tk) hi6 hl100 (hq tk)) [7] λ(r3:xT)m3 kk3 g3 _=>?_
 intro sS
 refine Ac (L':=0) (hd':=none) F Z 16 67109124 (ei (b:=⟨(is.map u8)⟩) (t:=r3.t) hsz hn) [] λl4 m4 kk4 g4 _=>?_
 intro sS
 refine x9 (L':=4) (hd':=none) F Z 15 170390089 (xM (y:=m4+1) (x:=m4) (ac:=m4+2) (lc:=m4+3) (lo:=b) (t1:=r3.t) (u1:=kk3+0) (u2:=kk3+1) (u3:=l4) HT) [9,8,10,11,3] λ(r5:Cy)m5 kk5 g5 _=>?_
 intro sS
 refine iN ?_
 refine cx (L':=0) (hd':=none) F Z 24 72057594242449603 (ei (b:=⟨(is.map u8)⟩) (t:=r3.t) hsz hn) [] λl6 m6 kk6 g6 _=>?_
 intro sS
 refine cx (L':=1) (hd':=none) F Z 3 0 (kH (a:=0) (b:=(n:Nat)) (c:=2) (t:=kk5+1) (u:=l6) (v:=kk6+0) (by decide) hpy) [] λrg m7 kk7 g7 _=>?_
 intro sS
 refine cx (post:=λri=>[(rg+937,fC 0 (n:Nat) 2 (kk5+1) (l6+0) (kk6+0)),(ri+937,bP (0:Nat) (h:Nat) (2:Nat))]) (L':=0) (hd':=none) F Z 5 258893 (dY (r:=rg) (a:=0) (b:=(n:Nat)) (c:=2) (n:=(h:Nat)) hrs.1 hrs.2) [12] λri m8 kk8 g8 _=>?_
 intro sS
 refine cf (L':=1) (hd':=none) F Z 4 14 ([(ri+937,bP (0:Nat) (h:Nat) (2:Nat)),(m8+937,aa ([].map bT) 0),(m8+1+937,ae (fQ (d6 F).params none) 0),(b+1+937,aC (some (.bytes ⟨(is.map u8)⟩ r3.t)))]) ([].map aO) ([]) (λ(r9:k7)=>[(ri+937,bP (r9.k:Nat) (0:Nat) (2:Nat)),(m8+937,aa (r9.A.map bT) r9.ea),(m8+1+937,ae (fQ (d6 F).params (some r9.o)) r9.ec),(b+1+937,aC (some (.bytes ⟨(is.map u8)⟩ r3.t)))]) (λ(r9:k7)=>[]) (λ(r9:k7)=>r9.A.map aO) (ti (cs:=(is.map u8)) (m:=h) (y:=ri) (ac:=m8) (lc:=m8+1) (lo:=b) (t1:=r3.t) hc1000 hch hh0 hh100) [13,14,15,3] (FL _) λ(r9:k7)m9 kk9 g9 hr9=>?_
 intro sS
 refine cf (L':=2) (hd':=none) F Z 31 0x113ff3cf0c00104100c3 ([(m9+937,ai (m8+937) 0),(m8+937,aa (r9.A.map bT) r9.ea),(m9+1+937,aa ([].map nv) 0),(m9+2+937,ae (Aj (d6 F).params none) 0)]) (r9.A.map aO) ([]) (λ(r10:As)=>[(m9+937,av r10.i),(m8+937,aa (r9.A.map bT) r9.ea),(m9+1+937,aa ((r9.A.flatMap vW).map nv) r10.ea),(m9+2+937,ae (Aj (d6 F).params (some r10.o)) r10.ec)]) (λ(r10:As)=>[]) (λ(r10:As)=>r9.A.map aO) (vL (x:=m8) (y:=m9) (ac:=m9+1) (lo:=b) (lc:=m9+2) (ep:=r9.ea) (ars:=r9.A) (hA2 r9 hr9) (hAne r9 hr9)) [16,14,17,18] (FL _) λ(r10:As)m10 kk10 g10 _=>?_
 intro sS
 refine cx (L':=1) (hd':=none) F Z 18 5432913836192979 (mC (x:=m9+1) (ep:=r10.ea) (is:=js) (us:=r9.A.flatMap vW) (hjs r9 hr9) hj6 hjl) [17] λ(r11:xT)m11 kk11 g11 _=>?_
 intro sS
 refine cx (post:=λq12=>[(m11+937,av 3),(m4+2+937,aa [.bytes ⟨(is.map u8)⟩ r5.r1,.bytes ⟨(js.map u8)⟩ r5.r2,.bytes ⟨(is.map u8).reverse⟩ r5.r3] 3),(m11+1+937,aa [.bool true,.bool true,.bool true] 3),(m11+2+937,ae [de (d6 F).params U7 q12 (.bytes ⟨(is.map u8).reverse⟩ r5.r3)] 1)]) (L':=1) (hd':=none) F Z 27 88784677646531 (CY (y:=m11) (x:=m4+2) (ac:=m11+1) (lo:=b) (lc:=m11+2) (ex:=3)) [19,10,20,21] λq12 m12 kk12 g12 _=>?_
 intro sS
 refine kc F Z 24 0x5d75d75d6596 (zS (fX (d6 F).params b) (m11+938) (m12+938)) .NotEq (m11+938) (m12+938) ?_
 intro sS
 refine cx (L':=0) (hd':=none) F Z 46 0x103103615615615615615615615fd5615 (rN (cs:=(is.map u8)) (y:=m12+2) (t:=r3.t) (k:=kk12+2) htl) [24] λrv m13 kk13 g13 _=>?_
 intro sS
 refine kc F Z 2 0 (zT (fX (d6 F).params b) (m4+939) (m13+937)) .NotEq (m4+939) (m13+937) ?_
 intro sS
 refine cx (post:=λ_=>[(m4+2+937,aa [.bytes ⟨(is.map u8)⟩ r5.r1,.bytes ⟨(js.map u8)⟩ r5.r2,.bytes ⟨(is.map u8).reverse⟩ r5.r3] 3),(m13+937,aa [.bytes ⟨(is.map u8)⟩ r3.t,.bytes ⟨(js.map u8)⟩ r11.t,.bytes ⟨(is.map u8).reverse⟩ rv] 0)]) (L':=0) (hd':=none) F Z 4 16561803 (uC (x:=m4+2) (y:=m13) (c1:=(is.map u8)) (c2:=(js.map u8)) (c3:=(is.map u8).reverse)) [10,25] λ_ m14 kk14 g14 _=>?_
 intro sS
 refine cx (post:=λ(r15:mt)=>[(m14+937,av 3),(m4+2+937,aa [.bytes ⟨(is.map u8)⟩ r5.r1,.bytes ⟨(js.map u8)⟩ r5.r2,.bytes ⟨(is.map u8).reverse⟩ r5.r3] 3),(m14+1+937,aa [.ref (r15.a1+937),.ref (r15.a2+937),.ref (r15.a3+937)] 3),(m14+2+937,ae [de (d6 F).params U7 r15.q (.bytes ⟨(is.map u8).reverse⟩ r5.r3)] 1),(r15.a1+937,aa (r15.s1.map sv) r15.e1),(r15.a2+937,aa (r15.s2.map sv) r15.e2),(r15.a3+937,aa (r15.s3.map sv) r15.e3)]) (L':=3) (hd':=none) F Z 17 29192139459 (w0 (y:=m14) (x:=m4+2) (ac:=m14+1) (lo:=b) (lc:=m14+2) (ex:=3) hb1 hb2 hb3 hbl1 hbl2 hbl3 hbn1 hbn2 hbn3) [26,10,27,28] λ(r15:mt)m15 kk15 g15 hr15=>?_
 intro sS
 refine cx (post:=λ(r16:z8)=>[(m15+937,av 3),(m14+1+937,aa [.ref (r15.a1+937),.ref (r15.a2+937),.ref (r15.a3+937)] 3),(m15+1+937,aa [.str (eM is) r16.t1,.str (eM js) r16.t2,.str (eM is.reverse) r16.t3] 3),(m15+2+937,ae [de (d6 F).params U7 r16.q (.ref (r15.a3+937))] 1),(r15.a1+937,aa (r15.s1.map sv) r15.e1),(r15.a2+937,aa (r15.s2.map sv) r15.e2),(r15.a3+937,aa (r15.s3.map sv) r15.e3),(873,nG (r16.cc+937))]) (L':=4) (hd':=none) F Z 29 0x2173f71c0dd75d0c3 (wO (y:=m15) (x:=m14+1) (ac:=m15+1) (lo:=b) (lc:=m15+2) (ex:=3) (i1:=is) (i2:=js) (i3:=is.reverse) (hm1 r15 hr15) (hm2 r15 hr15) (hm3 r15 hr15) hi6 hj6 hk6 hi18 hj18 hk18) [32,27,33,34,29,30,31,1] λ(r16:z8)m16 kk16 g16 _=>?_
 intro sS
 refine cx (post:=λ(r17:z8)=>[(m16+937,av 3),(m14+1+937,aa [.ref (r15.a1+937),.ref (r15.a2+937),.ref (r15.a3+937)] 3),(m16+1+937,aa [.str (eM is) r17.t1,.str (eM js) r17.t2,.str (eM is.reverse) r17.t3] 3),(m16+2+937,ae [de (d6 F).params U7 r17.q (.ref (r15.a3+937))] 1),(r15.a1+937,aa (r15.s1.map sv) r15.e1),(r15.a2+937,aa (r15.s2.map sv) r15.e2),(r15.a3+937,aa (r15.s3.map sv) r15.e3)]) (L':=4) (hd':=none) F Z 30 0x91cfdc7030e38e30c3 (ug (y:=m16) (x:=m14+1) (ac:=m16+1) (lo:=b) (lc:=m16+2) (ex:=3) (i1:=is) (i2:=js) (i3:=is.reverse) (hm1 r15 hr15) (hm2 r15 hr15) (hm3 r15 hr15) hi6 hj6 hk6 hi18 hj18 hk18) [35,27,36,37,29,30,31] λ(r17:z8)m17 kk17 g17 _=>?_
 intro sS
 refine kc F Z 6 158118 (B1 (fX (d6 F).params b) (m15+938) (m16+938)) .NotEq (m15+938) (m16+938) ?_
 intro sS
 refine cx (post:=λ_=>[(m15+1+937,aa [.str (eM is) r16.t1,.str (eM js) r16.t2,.str (eM is.reverse) r16.t3] 3),(m16+1+937,aa [.str (eM is) r17.t1,.str (eM js) r17.t2,.str (eM is.reverse) r17.t3] 3)]) (L':=0) (hd':=none) F Z 4 16656738 (w3 (x:=m15+1) (y:=m16+1) (c1:=eM is) (c2:=eM js) (c3:=eM is.reverse)) [33,36] λ_ m18 kk18 g18 _=>?_
 intro sS
 refine cn (L':=8) (hd':=none) F Z N 17 42463012995 ([(m18+937,ai (m15+1+937) 0),(m15+1+937,aa [.str (eM is) r16.t1,.str (eM js) r16.t2,.str (eM is.reverse) r16.t3] 3),(m18+1+937,aa [] 0),(m18+2+937,ae [] 0)]) [] (r9.A.map aO++[]) (λ(r19:mt)=>[(m18+937,av 3),(m15+1+937,aa [.str (eM is) r16.t1,.str (eM js) r16.t2,.str (eM is.reverse) r16.t3] 3),(m18+1+937,aa [.ref (r19.a1+937),.ref (r19.a2+937),.ref (r19.a3+937)] 3),(m18+2+937,ae [de (d6 F).params Ch r19.q (.str (eM is.reverse) r16.t3)] 1)]) (λ(r19:mt)=>[(r19.a1+937,aa (r19.s1.map sv) r19.e1),(r19.a2+937,aa (r19.s2.map sv) r19.e2),(r19.a3+937,aa (r19.s3.map sv) r19.e3)]) (λ_=>[]) (zC (y:=m18) (x:=m15+1) (ac:=m18+1) (lo:=b) (lc:=m18+2) (ex:=3) hS1 hS2 hS3 hL1 hL2 hL3 hN1 hN2 hN3) [38,33,39,40] 2 (fX (d6 F).params b) (b+937) (df [de (d6 F).params CN (tk) (.ref (x+937)),de (d6 F).params CO (kk5) (.ref (m4+939)),de (d6 F).params vU (kk9) (.ref (m8+937)),de (d6 F).params CP (kk11) (.bytes ⟨(js.map u8)⟩ r11.t),de (d6 F).params AS (kk15) (.ref (m14+938)),de (d6 F).params CQ (kk16) (.ref (m15+938))] 6 ⟨[]⟩) (FL _) λ(r19:mt)m19 kk19 g19 σ19 hr19=>?_
 intro sS
 refine kc F Z 19 210078437571 (B2 (fX (d6 F).params b) (m18+938) (m14+938)) .NotEq (m18+938) (m14+938) ?_
 intro sS
 refine cx (post:=λ_=>[(m18+1+937,aa [.ref (r19.a1+937),.ref (r19.a2+937),.ref (r19.a3+937)] 3),(m14+1+937,aa [.ref (r15.a1+937),.ref (r15.a2+937),.ref (r15.a3+937)] 3),(r19.a1+937,aa (r19.s1.map sv) r19.e1),(r19.a2+937,aa (r19.s2.map sv) r19.e2),(r19.a3+937,aa (r19.s3.map sv) r19.e3),(r15.a1+937,aa (r15.s1.map sv) r15.e1),(r15.a2+937,aa (r15.s2.map sv) r15.e2),(r15.a3+937,aa (r15.s3.map sv) r15.e3)]) (L':=0) (hd':=none) F Z 4 16680744 (w2 (x:=m18+1) (y:=m14+1) (hsame r15 r19 hr15 hr19)) [39,27,41,42,43,29,30,31] λ_ m20 kk20 g20 _=>?_
 intro sS
 refine cx (L':=0) (hd':=none) F Z 34 0x2aaeaa28a28a03a28a28a03000 (yY (x:=r19.a1) (y:=r19.a2) (ep:=r19.e1) (ey:=r19.e2) (vs:=r19.s1) (us:=r19.s2) (hz21 r19 hr19)) [41,42] λad2 m21 kk21 g21 _=>?_
 intro sS
 refine cf (L':=6) (hd':=none) F Z 3 0 ([(ad2+937,aa ((r19.s1++r19.s2).map sv) 0)]) ([]) (r9.A.map aO++[]) (λ(sr:fb)=>[(ad2+937,aa ((r19.s1++r19.s2).map sv) 0)]) (λ(sr:fb)=>[(sr.x1+937,ap 167 (sr.x2+937)),(sr.x2+937,au (d6 F).params sr.k1 sr.k2 sr.k3 sr.k4 sr.t3 sr.t4 (sr.x3+937) .none 0 0 4),(sr.x3+937,ae sr.es sr.e2)]) (λ(sr:fb)=>GO sr.G) (iI (y:=ad2) (ep4:=0) (ar:=aD r19.s1++aD r19.s2) (hSP r19 hr19).1 (hSP r19 hr19).2.1 (hSP r19 hr19).2.2) [44] (FL _) λ(sr:fb)m22 kk22 g22 hsr=>?_
 intro sS
 refine da F 3 0 ?_
 intro sS
 refine aw [0,1,2,3,4,5,6,7,8,9,10,11,12,13,14,15,16,17,18,19,20,21,22,23,24,25,26,27,28,29,30,31,32,33,34,35,36,37,38,39,40,41,42,43,44] [45,46,47] ([(sr.x1+937,ap 167 (sr.x2+937)),(sr.x2+937,au (d6 F).params sr.k1 sr.k2 sr.k3 sr.k4 sr.t3 sr.t4 (sr.x3+937) .none 0 0 4),(sr.x3+937,ae sr.es sr.e2)]) [] (([(sr.x1+937,ap 167 (sr.x2+937)),(sr.x2+937,au (d6 F).params sr.k1 sr.k2 sr.k3 sr.k4 sr.t3 sr.t4 (sr.x3+937) .none 0 0 4),(sr.x3+937,ae sr.es sr.e2)]++GO sr.G)++(r9.A.map aO++[])) (by rw[FV];exact FL _) ?_
 intro sS
 refine cn (L':=7) (hd':=none) F Z N 0 0 [] ([(sr.x1+937,ap 167 (sr.x2+937)),(sr.x2+937,au (d6 F).params sr.k1 sr.k2 sr.k3 sr.k4 sr.t3 sr.t4 (sr.x3+937) .none 0 0 4),(sr.x3+937,ae sr.es sr.e2)]++GO sr.G) (r9.A.map aO++[]) (λ(_:Unit)=>[]) (λ(_:Unit)=>[]) (λ(_:Unit)=>[]) (pZ (hRF r19 hr19) sr hsr) [] 2 (fX (d6 F).params b) (b+937) (df [de (d6 F).params CN (tk) (.ref (x+937)),de (d6 F).params CO (kk5) (.ref (m4+939)),de (d6 F).params vU (kk9) (.ref (m8+937)),de (d6 F).params CP (kk11) (.bytes ⟨(js.map u8)⟩ r11.t),de (d6 F).params AS (kk15) (.ref (m14+938)),de (d6 F).params CQ (kk16) (.ref (m15+938)),de (d6 F).params AQ (kk19) (.ref (m18+938))] 7 σ19) (FL _) λ(_:Unit)m23 kk23 g23 σ23 _=>?_
 intro sS
 refine cf (L':=4) (hd':=none) F Z 10 192 ([(m8+937,aa (r9.A.map bT) r9.ea)]) (r9.A.map aO) ([]) (λ(r24:s5)=>[(m8+937,aa (r9.A.map bT) r9.ea)]) (λ(r24:s5)=>[(r24.y+937,aa (aM r24.acc) r24.ea)]) (λ(r24:s5)=>RO r24.acc++r9.A.map aO) (ou (x:=m8) (ep:=r9.ea) (ars:=r9.A) (hAne r9 hr9) (hA6 r9 hr9) (hA9 r9 hr9) (hB9 r9 hr9)) [14] (FL _) λ(r24:s5)m24 kk24 g24 hr24=>?_
 intro sS
 refine cf (L':=1) (hd':=none) F Z 17 3246982492352 ([(m24+937,ai (m8+937) 0),(m8+937,aa (r9.A.map bT) r9.ea),(m24+1+937,aa ([].map bT) 0),(m24+2+937,ae (yz (d6 F).params none) 0)]) (r9.A.map aO++[].map aO) (RO r24.acc) (λ(r25:sR)=>[(m24+937,av r25.i),(m8+937,aa (r9.A.map bT) r9.ea),(m24+1+937,aa (r25.A.map bT) r25.ea),(m24+2+937,ae (yz (d6 F).params (some r25.o)) r25.ec)]) (λ(r25:sR)=>[]) (λ(r25:sR)=>r9.A.map aO++r25.A.map aO) (vq (x:=m8) (y:=m24) (ac:=m24+1) (lo:=b) (lc:=m24+2) (ep:=r9.ea) (ars:=r9.A) (hA3 r9 hr9) (hAne r9 hr9)) [46,14,47,48] (zv _ _) λ(r25:sR)m25 kk25 g25 hr25=>?_
 intro sS
 refine cf (L':=4) (hd':=none) F Z 12 53448481905 ([(m24+1+937,aa (r25.A.map bT) r25.ea)]) (r25.A.map aO) (r9.A.map aO++RO r24.acc) (λ(r26:s5)=>[(m24+1+937,aa (r25.A.map bT) r25.ea)]) (λ(r26:s5)=>[(r26.y+937,aa (aM r26.acc) r26.ea)]) (λ(r26:s5)=>RO r26.acc++r25.A.map aO) (ou (x:=m24+1) (ep:=r25.ea) (ars:=r25.A) (hQne r9 hr9 r25 hr25) (hQ6 r9 hr9 r25 hr25) (hQ9 r9 hr9 r25 hr25) (hQB r9 hr9 r25 hr25)) [47] (zw _ _ _) λ(r26:s5)m26 kk26 g26 hr26=>?_
 intro sS
 refine cn (L':=8) (hd':=none) F Z N 75 0xde8fe8a030c30c3db4d33d34d34d34cf4d34d34d33d34d34d33ff3cf3 ([(m26+4+937,ai (m18+1+937) 0),(m18+1+937,aa [.ref (r19.a1+937),.ref (r19.a2+937),.ref (r19.a3+937)] 3),(m26+5+937,aa [] 0),(m26+6+937,ae [] 0),(r19.a1+937,aa (r19.s1.map sv) r19.e1),(r19.a2+937,aa (r19.s2.map sv) r19.e2),(r19.a3+937,aa (r19.s3.map sv) r19.e3)]) [] ((RO r26.acc++r25.A.map aO)++(r9.A.map aO++RO r24.acc)) (λ(r27:yK)=>[(m26+4+937,av 3),(m18+1+937,aa [.ref (r19.a1+937),.ref (r19.a2+937),.ref (r19.a3+937)] 3),(m26+5+937,aa [.ref (r27.y1+937),.ref (r27.y2+937),.ref (r27.y3+937)] 3),(m26+6+937,ae [de (d6 F).params U7 r27.q (.ref (r19.a3+937))] 1),(r19.a1+937,aa (r19.s1.map sv) r19.e1),(r19.a2+937,aa (r19.s2.map sv) r19.e2),(r19.a3+937,aa (r19.s3.map sv) r19.e3)]) (λ(r27:yK)=>[(r27.y1+937,aa (aM r27.c1) r27.f1),(r27.y2+937,aa (aM r27.c2) r27.f2),(r27.y3+937,aa (aM r27.c3) r27.f3)]) (λ(r27:yK)=>RO r27.c3++(RO r27.c2++(RO r27.c1++[]))) (BR (y:=m26+4) (x:=m18+1) (ac:=m26+5) (lo:=b) (lc:=m26+6) (ex:=3) (hR1 r19 hr19).ev (hR2 r19 hr19).ev (hR3 r19 hr19).ev (hR1 r19 hr19).len (hR2 r19 hr19).len (hR3 r19 hr19).len (hR1 r19 hr19).ne (hR2 r19 hr19).ne (hR3 r19 hr19).ne (hR1 r19 hr19).ok (hR2 r19 hr19).ok (hR3 r19 hr19).ok) [54,39,55,56,41,42,43] 2 (fX (d6 F).params b) (b+937) (df [de (d6 F).params CN (tk) (.ref (x+937)),de (d6 F).params CO (kk5) (.ref (m4+939)),de (d6 F).params vU (kk9) (.ref (m8+937)),de (d6 F).params CP (kk11) (.bytes ⟨(js.map u8)⟩ r11.t),de (d6 F).params AS (kk15) (.ref (m14+938)),de (d6 F).params CQ (kk16) (.ref (m15+938)),de (d6 F).params AQ (kk19) (.ref (m18+938)),de (d6 F).params (u [117,115,101,115]) (kk26) (.ref (r26.y+937)),de (d6 F).params (u [110,101,101,100,115]) (kk26+1) (.ref (r24.y+937))] 9 σ23) (FL _) λ(r27:yK)m27 kk27 g27 σ27 hr27=>?_
 intro sS
 refine kc F Z 14 3272580729 (zR (fX (d6 F).params b) (m26+942) (m27+937)) .Eq (m26+942) (m27+937) ?_
 intro sS
 refine cf (L':=0) (hd':=none) F Z 4 16748408 ([(m26+5+937,aa [.ref (r27.y1+937),.ref (r27.y2+937),.ref (r27.y3+937)] 3),(m27+937,aa [.ref (r24.y+937),.ref (r26.y+937),.ref (r26.y+937)] 0),(r27.y1+937,aa (aM r27.c1) r27.f1),(r27.y2+937,aa (aM r27.c2) r27.f2),(r27.y3+937,aa (aM r27.c3) r27.f3),(r24.y+937,aa (aM r24.acc) r24.ea),(r26.y+937,aa (aM r26.acc) r26.ea)]) (RO r27.c3++(RO r27.c2++(RO r27.c1++(RO r26.acc++RO r24.acc)))) (r25.A.map aO++r9.A.map aO) (λ_=>[(m26+5+937,aa [.ref (r27.y1+937),.ref (r27.y2+937),.ref (r27.y3+937)] 3),(m27+937,aa [.ref (r24.y+937),.ref (r26.y+937),.ref (r26.y+937)] 0),(r27.y1+937,aa (aM r27.c1) r27.f1),(r27.y2+937,aa (aM r27.c2) r27.f2),(r27.y3+937,aa (aM r27.c3) r27.f3),(r24.y+937,aa (aM r24.acc) r24.ea),(r26.y+937,aa (aM r26.acc) r26.ea)]) (λ_=>[]) (λ_=>RO r27.c3++(RO r27.c2++(RO r27.c1++(RO r26.acc++RO r24.acc)))) (BU (hfin r9 hr9 r25 hr25 r19 hr19 r24 hr24 r26 hr26 r27 hr27)) [55,60,57,58,59,45,49] (zx _ _ _ _ _ _ _) λ_ m28 kk28 g28 _=>?_
 intro sS
 exact fx F E 1 0 [0,1] r16.cc _ [] _ (FL _) (FK _).symm trivial
noncomputable def ib:Prop:=∀(w:World)(x ep:Nat)(ps:List IV),ps.length≤63→s7 w 9 none (.call (.ref 936) ⟨[.ref (x+937)],[]⟩) [(x+937,aa (ps.map iv) ep),(873,oH w.params)] (X:=Nat) (λ_ _=>True) (λ_=>.ok (.ret (.bool true))) (λc=>[(x+937,aa (ps.map iv) ep),(873,nG (c+937))])
structure pk(w:World)(s:Shared):Prop where
 st:cb w s.heap
 c873:s.heap.get? 873=some (oH w.params)
 law:s.heap.nsMap mainGlobals "law"=some (.ref 936)
 isNs:s.heap.isNs mainGlobals=true
 gens:s.gens=#[]
 slp:s.asleep
theorem kY(w:World):(∃s,AfterRun (opening pw) w s)∧∀s',AfterRun (opening pw) w s'→∃s₀,fenceModules? pw s'=some s₀∧s₀.gens=#[]∧∃s₁,TopRan pw w s₀ s₁∧pk w s₁:=by
 have h:=wx w
 unfold Bg at h
 obtain⟨s₀,h1,h⟩:=Option.bind_eq_some_iff.mp h
 obtain⟨s₁,h2,h3⟩:=Option.map_eq_some_iff.mp h
 unfold Fe at h1
 obtain⟨sT,h4,h5⟩:=Option.bind_eq_some_iff.mp h1
 have e4:=qE h4
 rw[rG,←table_eq_tree]at e4
 have A:=AfterImport.of_importEnds e4
 refine⟨⟨_,A⟩,λs' hs'=>?_⟩
 obtain rfl:s'=sT.abs:=AfterImport.unique hs' A
 have z:s₀.asleep:=Shared.asleep_of_life (fence_lifeW h5) A.life
 have r:=oX h2
 rw[rG,←table_eq_tree]at r
 obtain⟨a,l,os,fr⟩:=topRun_spec _ _ _ _ z r
 have f0:(pE s₀ s₁.abs&&(eV w.params).keys.all λa=>Nat.blt a s₁.n)=true:=congrArg (λx=>x.1) h3
 rw[Bool.and_eq_true]at f0
 have f:=f0.1
 have eb:s₁.abs.heap.bltView=bltViewBooted:=congrArg (λx=>x.2.1) h3
 have el:s₁.abs.heap.nsMap mainGlobals "law"=some (.ref 936):=congrArg (λx=>x.2.2.1) h3
 have e8:s₁.abs.heap.get? 873=some (oH w.params):=congrArg (λx=>x.2.2.2.1) h3
 have eo:((eV w.params).keys.map λa=>(s₁.tree.get a).bind alive)=(eV w.params).keys.map λa=>(eV w.params).get a:=congrArg (λx=>x.2.2.2.2) h3
 unfold pE at f
 simp only[Bool.and_eq_true,beq_iff_eq]at f
 obtain⟨⟨⟨⟨⟨⟨⟨⟨⟨⟨f1,f2⟩,f3⟩,f4⟩,f5⟩,f6⟩,f7⟩,f8⟩,f9⟩,f10⟩,f11⟩:=f
 have g1:s₁.abs.gens=#[]:=Array.eq_empty_of_size_eq_zero f10
 refine⟨s₀,h5,Array.eq_empty_of_size_eq_zero f2,s₁.abs,⟨a,l,Shared.rest_eq os,λb o hb hn=>fr b o (Heap.lt_size hb) (λq=>hn (.inl q)) (λq=>hn (.inr (.inl q))) (λq=>hn (.inr (.inr ((Pin.globalOf_eq f1 _).trans q)))) hb,
  Heap.accountedI_of_ok f6,statics_of_ok f3,Pin.keysAreStrs_of f7,λx hx=>(Pin.builtinOf_eq f8 x).trans (Heap.of_bltView f8 eb x hx),?_,λg hg=>?_,names_of_bound f4,laid_of_kept f5⟩,⟨λa o ha=>?_,e8,el,f7,g1,Shared.asleep_of_life l z⟩⟩
 ·obtain⟨bm,ob,b1,_,b3,b4,b5,_⟩:=Heap.bmainOk_spec f9
  exact⟨bm,ob,(Pin.globalOf_eq f7 _).trans b1,b3,b4,b5⟩
 ·rw[g1]at hg;simp at hg
 ·have hm:=T2.mem_keys (t:=eV w.params) ha
  have:=List.map_inj_left.mp eo a hm
  obtain⟨o',g,e⟩:=Option.bind_eq_some_iff.mp (this.trans ha)
  exact(abs_get (Nat.lt_of_lt_of_le (Nat.lt_succ_self a) (Nat.le_of_ble_eq_true (List.all_eq_true.mp f0.2 a hm))) g).trans e
theorem pJ{w:World}{s:Shared}(T:pk w s):isTheDefsW pw s.heap "law":=by
 have h:s.heap.get? 936=some (xc w.params):=T.st 936 _ (by kernel_rfl)
 refine⟨936,_,_,aF (aj 44),aE (aj 44),aX (aj 44),(Pin.globalOf_eq T.isNs _).trans T.law,h,rfl,by kernel_rfl,by kernel_rfl,by kernel_rfl,rfl,rfl,rfl,rfl,rfl,rfl,.inl ⟨by kernel_rfl,rfl⟩,[],by kernel_rfl,.inl ⟨rfl,rfl⟩⟩
noncomputable def wE:List Int→Nat→List IV
 |[],_=>[]
 |n::r,t=>(n,t)::wE r (t+1)
theorem qH:∀(l:List Int)(t:Nat),(wE l t).map (·.1)=l
 |[],_=>rfl
 |n::r,t=>by show n::(wE r (t+1)).map (·.1)=_;rw[qH r]
theorem wF(l:List Int)(t:Nat):(wE l t).length=l.length:=by have:=congrArg List.length (qH l t);rwa[FQ]at this
theorem oq{R:WRecords}{cl:Str→Option Addr}{P:Params}{ord:List DictEntry→List DictEntry}:∀(l:List Int)(s:Shared),layAllW R cl P ord (l.map .int) s=some ((wE l s.toks).map iv,{s with toks:=s.toks+l.length})
 |[],s=>rfl
 |n::r,s=>by
  show(match layAllW R cl P ord (r.map .int) {s with toks:=s.toks+1}with|some q=>some (Value.int n s.toks::q.1,q.2)|none=>none)=_
  rw[oq r]
  show some _=some _
  have:s.toks+1+r.length=s.toks+(n::r).length:=by rw[FT];lia
  dsimp only
  rw[this]
  rfl
theorem qT{p:Prop}(h:false=true):p:=nomatch h
theorem wy{R:WRecords}{x:WData}(h:WShape.has R x .int=true):∃n,x=.int n:=by
 cases x with
 |int n=>exact⟨n,rfl⟩
 |_=>exact qT h
theorem tP{R:WRecords}{xs:List WData}(h:WShape.hasItems R xs .int=true):∃l:List Int,xs=l.map .int:=by
 induction xs with
 |nil=>exact⟨[],rfl⟩
 |cons x xs ih =>
  obtain⟨h1,h2⟩:=Bool.and_eq_true_iff.mp (show(WShape.has R x .int&&WShape.hasItems R xs .int)=true from h)
  obtain⟨l,rfl⟩:=ih h2
  obtain⟨n,rfl⟩:=wy h1
  exact⟨n::l,rfl⟩
theorem tQ{R:WRecords}{d:WData}(h:WShape.has R d (.list .int)=true):∃l:List Int,d=.list (l.map .int):=by
 cases d with
 |list xs =>
  obtain⟨l,rfl⟩:=tP (R:=R) (xs:=xs) (by have h:(WShape.hasItems R xs .int||false)=true:=h;rwa[Bool.or_false]at h)
  exact⟨l,rfl⟩
 |_=>exact qT h
theorem Bs{R:WRecords}{l:List Int}{o:OpenLaw}(hm:o.most=some 63)(hb:o.bound=none)(h:o.pre.holds R {args:=[.list (l.map .int)]}=true):l.length≤63:=by
 unfold OpenLaw.pre at h
 rw[hm,hb]at h
 have e:W.less? (.int 63) (.int ((l.map WData.int).length:Int))=some (decide ((63:Int)<(l.map WData.int).length)):=rfl
 have h:(match (match (match (W.less? (.int 63) (.int ((l.map WData.int).length:Int))).map WData.bool with|some (.bool b)=>some (WData.bool (!b))|_=>none)with|some (.bool false)=>some (WData.bool false)|some (.bool true)=>some (.bool true)|_=>none)with|some (WData.bool true)=>true|_=>false)=true:=h
 rw[e,FQ]at h
 by_cases hl:(63:Int)<l.length
 ·rw[decide_eq_true hl]at h
  exact qT h
 ·omega
theorem wc{o:OpenLaw}(hm:o.most=some 63)(hb:o.bound=none){args:List WData}(h:o.row.toRowW.claim.pre args=true):∃l:List Int,args=[.list (l.map .int)]∧l.length≤63:=by
 obtain⟨h1,h2⟩:=pre_splitW h
 obtain⟨d,r,rfl,hd,hr⟩:=hasAllW_cons (e:=.list .int) (es:=[]) h1
 cases r with
 |nil =>
  obtain⟨l,rfl⟩:=tQ hd
  exact⟨l,rfl,Bs hm hb h2⟩
 |cons _ _=>exact qT hr
theorem tj{args:List WData}(h:PySem.Challenge.rw_op0285_01.row.toRowW.claim.pre args=true):∃l:List Int,args=[.list (l.map .int)]∧l.length≤63:=wc (o:=PySem.Challenge.rw_op0285_01) rfl rfl h
noncomputable abbrev Γ0:PySem.Ctx:=⟨.builtin "claim.caller" {},none,none,[],none⟩
theorem mD(c:Code)(p:Pos):(Γ0.enter c none p).Below callerA:=caller_in.enter c none p (by intro x;cases x)
theorem pt(c:Code)(p:Pos):yH (Γ0.enter c none p).below:=by
 intro x hx
 have hx:x∈[(Code.builtin "claim.caller" {},p)]:=hx
 obtain rfl:=FW.mp hx
 rfl
theorem wl{w:World}{s:Shared}{x ep:Nat}{ps:List IV}{mg:Str→Option Value}{R:Result→Shared→Prop}(H:ib)(hst:cb w s.heap)(h8:s.heap.get? 873=some (oH w.params))(hx:s.heap.get? (x+937)=some (aa (ps.map iv) ep))(hps:ps.length≤63)
  (hNs:s.heap.Ns mainGlobals mg) (hl:mg "law"=some (.ref 936)) (hg:s.gens=#[])
  (hR:∀(c:Nat)(h':Heap)(tk':Tok)(g':GB),h'.get? (x+937)=some (aa (ps.map iv) ep)→h'.get? 873=some (nG (c+937))→(∀b o,s.heap.get? b=some o→b≠x+937→b≠873→h'.get? b=some o)→R (.ok (.ret (.bool true))) ⟨h',g'.1,s.drawn,tk',s.os⟩):
  Sem.wp (model pw w) Γ0 (callStub "law" [.ref (x+937)]).cur (Sem.finPost (model pw w) Γ0 R) (λe _ s'=>R (.error e) s') default s:=by
 obtain⟨h,g,d,tk,os⟩:=s
 have hg:g=#[]:=hg
 subst hg
 show Sem.wp (model pw w) Γ0 (nsGet mainGlobals "law">>=λr=>match r with
   |some f=>do ret (←PySem.call f [.ref (x+937)])
   |none=>unsupported "claim.caller:no-such-global") _ _ _ _
 rw[Sem.wp_bind',Sem.wp_nsGet _ _ _ _ _ hNs,hl]
 show Sem.wp (model pw w) Γ0 (runValue (.call (.ref 936) ⟨[.ref (x+937)],[]⟩)>>=λv=>ret v) _ _ _ _
 rw[Sem.wp_bind',Sem.wp_runValue]
 have off8:sQ w 873:=λo e=>by
  have:bo w 873=none:=by kernel_rfl
  rw[this]at e;cases e
 have offx:sQ w (x+937):=λo e=>by
  have hk:=T2.mem_keys (t:=eV w.params) e
  have hb:∀a∈(eV w.params).keys,a<937:=by
   have e2:(eV w.params).keys.all (λa=>Nat.blt a 937)=true:=by kernel_rfl
   intro a ha
   have:=List.all_eq_true.mp e2 a ha
   exact Nat.le_of_ble_eq_true this
  have:=hb _ hk
  lia
 have z:=H w x ep ps hps callerA h ⟨#[],leftWithCleanup_false_of_bare (λ_ h=>by simp at h)⟩ d tk os [] ⟨rfl,by decide,by decide⟩ rfl ⟨trivial,λa ha=>by cases ha⟩ (λa ha=>by cases ha) hst (λp hp=>by
   rcases FY.mp hp with e|hp
   ·subst e;exact hx
   ·obtain rfl:=FW.mp hp;exact h8)
  (λp hp=>by
   rcases FY.mp hp with e|hp
   ·subst e;exact offx
   ·obtain rfl:=FW.mp hp;exact off8)
  (by
   show[x+937,873].Nodup
   simp only[List.nodup_cons,FW,FU,not_false_eq_true,List.nodup_nil,and_true]
   lia)
  (Γ0.enter (.call (.ref 936) ⟨[.ref (x+937)],[]⟩) none default) default rfl (mD _ _) (pt _ _)
 refine wpCode_mono (λr' s' hr=>?_) z
 obtain⟨c,h',tk',g',rfl,_,hp,_,_,hk⟩:=hr
 refine hR c h' tk' g' (hp _ (.head _)) (hp _ (.tail _ (.head _))) λb o hb n1 n2=>?_
 refine(hk.1 b o hb ?_).1 (λq=>by cases q)
 show b∉[x+937,873]
 simp[n1,n2]
theorem mM(h:Heap)(o:Obj)(hf:o.isFreed=false):(h.push o).get? h.objs.size=some o:=by
 refine Heap.get?_some_iff.mpr ⟨?_,hf⟩
 rw[Heap.objs_push,Array.getElem?_push]
 simp
theorem xw:W.same (.bool true) (.bool true)=true:=by decide +kernel
theorem xh(l:List Int):eO.row.toRowW.claim.post [.list (l.map .int)] (.bool true) [.list (l.map .int)]=true:=by
 show(true&&(match (some (WData.bool (W.same (.bool true) (.bool true))))with|some (WData.bool true)=>true|_=>false))=true
 rw[xw]
 rfl
theorem cps{P:Prop}(h:∀G:Prop,(P→G)→G):P:=h P id
theorem ua{w:World}{s:Shared}(H:ib)(t:pk w s){free:Addr→Prop}{kept:Heap→Prop}(hk:∀h,kept h):eO.row.toRowW.claim.CallFrom (callStub "law") w free True kept s:=by
 intro args hpre hlay ord hord
 refine cps λG hG=>?_
 obtain⟨l,rfl,hl⟩:=tj hpre
 obtain⟨S,hS⟩:∃S:Shared,S={s with toks:=s.toks+l.length,heap:=s.heap.push {cls:=.type "list",data:=.seq ((wE l s.toks).map iv).toArray}}:=⟨_,rfl⟩
 have hlaid:layAllW eO.row.toRowW.claim.records (classAt s.heap) w.params ord [.list (l.map .int)] s=some ([.ref s.heap.objs.size],S):=by
  subst hS
  unfold layAllW layW
  rw[oq]
  rfl
 have hrest:=layAllW_rest _ _ _ hlaid
 have keeps:=layAllW_keeps _ _ _ hlaid
 obtain⟨as,hrd,hin,hold⟩:=reads_layAllW hord _ _ _ hlaid hlay S.heap (λ_ _ e=>e)
 have L:Laid eO.row.toRowW.claim.records w s S [.list (l.map .int)] [.ref s.heap.objs.size] as:=⟨⟨ord,hord,hlaid⟩,hrd,hin,hold,keeps,hrest.1.trans t.gens,hrest.2.2.1⟩
 have hbig:=aV w s.heap t.st
 obtain⟨x,hx⟩:∃x,s.heap.objs.size=x+937:=⟨s.heap.objs.size-937,by omega⟩
 have hst:cb w S.heap:=λa o e=>keeps a o (t.st a o e)
 have h8:=keeps _ _ t.c873
 have hget:S.heap.get? (x+937)=some (aa ((wE l s.toks).map iv) 0):=by
  rw[←hx,hS]
  exact mM s.heap _ rfl
 have hNs:S.heap.Ns mainGlobals (s.heap.nsMap mainGlobals):=(Heap.Ns.of_isNs t.isNs).keeps keeps
 have hgens:S.gens=#[]:=hrest.1.trans t.gens
 have wp:=wl (w:=w) (s:=S) (x:=x) (ep:=0) (ps:=wE l s.toks) (mg:=s.heap.nsMap mainGlobals) (R:=λr s'=>(∃c:Nat,r=.ok (.ret (.bool true))∧s'.heap.get? (x+937)=some (aa ((wE l s.toks).map iv) 0)∧s'.heap.get? 873=some (nG (c+937))∧(∀b o,S.heap.get? b=some o→b≠x+937→b≠873→s'.heap.get? b=some o)∧s'.os=S.os)∧leftWithCleanup s'.gens=false)
  H hst h8 hget (by rw[wF];exact hl) hNs t.law hgens λc h' tk' g' e1 e2 e3=>⟨⟨c,rfl,e1,e2,e3,rfl⟩,g'.2⟩
 rw[hx]at hlaid L
 obtain⟨n,r,s1,s2,hs,hn,hfo,c,rfl,e1,e2,e3,e4⟩:=wp_halts_full (M:=model pw w) (Shared.asleep_of_life hrest.2.2.2 t.slp) wp
 have h877:S.heap.get? 877=some (BH w.params):=hst 877 _ (by kernel_rfl)
 have OK:OldK S.heap s1.heap:=by
  have main:∀b o,S.heap.get? b=some o→(b≠873→s1.heap.get? b=some o):=λb o hb n8=>by
   by_cases hbx:b=x+937
   ·subst hbx;rw[hget]at hb;cases hb;exact e1
   ·exact e3 b o hb hbx n8
  refine⟨λb o hb=>?_,λb o hb=>?_⟩
  ·by_cases h:b=873
   ·subst h
    rw[h8]at hb
    cases hb
    refine .inr (.inl ⟨⟨877,_,_,h877,by kernel_rfl,rfl,by kernel_rfl⟩,rfl,#[],#[.int 859 0,.int 20 0,.ref (c+937)],rfl,?_⟩)
    rw[e2]
    rfl
   ·exact .inl (main b o hb h)
  ·by_cases h:b=873
   ·subst h;exact⟨_,e2⟩
   ·exact⟨o,main b o hb h⟩
 have g:GoodWG eO.row.toRowW.claim (classAt s.heap) (ExcName.means s.heap) [.list (l.map .int)] S (.ok (.ret (.bool true))) {s1 with gens:=#[]}:=
  ⟨.inl ⟨.bool true,.bool true,[],rfl,λcls=>rfl,.bool true,xh l,λ_=>⟨List.nodup_nil,λa ha=>by cases ha⟩⟩,OK,e4,AllBare.empty⟩
 have z:=g.laid (c:=eO.row.toRowW.claim) rfl rfl (λa b=>ident_freeW (r:=eO.row.toRowW) rfl rfl rfl a b) L
 have hE:eO.row.toRowW.claim.Ends s [.list (l.map .int)] [.ref (x+937)] S (.ok (.ret (.bool true))) s1:=z.1.congr (s':=s1) rfl
 obtain⟨eh,_,_,eo,_⟩:=Shared.forget_eq hfo
 have hE:=hE.congr (s':=s2) eh
 have hlife:s2.heap.life=s.heap.life:=(runN_life _ _ _ hn).trans hrest.2.2.2
 refine hG ⟨_,_,hlaid,n,_,s2,hs,?_,λ_ i y hy=>by rw[t.gens]at hy;simp at hy,hk _,by rw[hlife],Shared.rest_eq ((eo.trans e4).trans hrest.2.2.1)⟩
 rcases hE with ⟨v,q,d1,d2,d3,d4,d5⟩|⟨e,ob,cls,q,_⟩
 ·cases q
  exact .inl ⟨_,rfl,d1,d2,d3,λb o y _=>d4 b o y,d5⟩
 ·cases q
theorem wI:eO.row.wellSaid=true→ib→eO.row.Holds:=λh' H=>by
 have hp:eO.row.toRowW.promised:=⟨[.list []],by decide +kernel,by decide +kernel⟩
 have hb:eO.row.toRowW.claim.prog.bare:=⟨rfl,rfl,rfl,rfl,rfl,uc⟩
 refine⟨h',hp,⟨⟨hb,by kernel_rfl,rfl⟩,hp.witness,λw=>⟨(kY w).1,λs' hs'=>?_⟩⟩⟩
 obtain⟨s₀,h1,h2,s₁,T,t⟩:=(kY w).2 s' hs'
 refine⟨s₀,h1,h2,s₁,T,λn hn=>?_,λx hx=>(nomatch hx),λx hx=>(nomatch hx),?_⟩
 ·obtain rfl:n="law":=FW.mp hn
  exact pJ t
 ·have z:=ua H t (free:=λb=>eO.row.writes=true∧madeByTheTop s₀ s₁ b) (kept:=λh'=>eO.row.writes=true→namesKept eO.row.toRowW.claim.prog eO.row.keeps s₁.heap h'∧∀x∈eO.row.toRowW.claim.records,∀a,classAt s₁.heap x.1=some a→recordClass h' a x.1 (x.2.map (·.1))=true) (λh q=>by cases q)
  intro args a1 a2 ord a3
  obtain⟨vs,S,b1,n,o,s',b2,b3,b4,b5⟩:=z args a1 a2 ord a3
  exact⟨vs,S,b1,n,o,s',b2,b3,λ_=>b4 trivial,b5⟩
theorem tR(H:ib):eO.Holds:=holds_law ub λsaid=>wI said H
theorem ue:ib:=λw x ep ps hps=>by
 obtain⟨l,hl⟩:∃l,l=([0,6,12,2,8]++(ps.take 4).map (·.1):List Int).map pr:=⟨_,rfl⟩
 have hn:l.length=5+(ps.take 4).length:=by rw[hl,FQ,FZ,FQ];rfl
 have ht:(ps.take 4).length≤4:=by rw[List.length_take];lia
 have hd:Dn l:=λp hp=>by
  rw[hl]at hp
  obtain⟨n,_,rfl⟩:=FX.mp hp
  exact⟨(uM n).1,(uM n).2.1⟩
 have hT:iM ([0,6,12,2,8]++(ps.take 4).map (·.1))=(cL l).map λi:Nat=>(i:Int):=by rw[rF,←hl]
 have hlen:(cL l).length=2*l.length:=on l
 have h5:5≤l.length∧l.length≤9:=by lia
 have hi6:=CX hd
 have hs6:∀i∈hV (cL l),i<6:=λi hi=>hi6 i ((vE hlen i).mp hi)
 have hr6:∀i∈(cL l).reverse,i<6:=λi hi=>hi6 i (List.mem_reverse.mp hi)
 have hsl:(hV (cL l)).length=2*l.length:=(vD hlen).trans hlen
 have hrl:(cL l).reverse.length=2*l.length:=by rw[List.length_reverse,hlen]
 have p1:dX (cL l)=l:=iH l
 have p2:dX (hV (cL l))=l.map Prod.swap:=by rw[ry,iH]
 have p3:dX (cL l).reverse=(l.map Prod.swap).reverse:=by rw[oS,iH]
 have Ad:l≠[]:=by intro q;rw[q]at h5;simp at h5
 have ne2:l.map Prod.swap≠[]:=by intro q;exact Ad (List.map_eq_nil_iff.mp q)
 have ne3:(l.map Prod.swap).reverse≠[]:=by intro q;exact ne2 (List.reverse_eq_nil_iff.mp q)
 have l2:(l.map Prod.swap).length=l.length:=FQ ..
 have l3:(l.map Prod.swap).reverse.length=l.length:=by rw[List.length_reverse,l2]
 have K1:=A4 hd
 have K2:=B5 hd
 have b1:=y9 hd
 have b2:=Ep hd
 have K3:Rk (l.map Prod.swap).reverse (5 - ·):=⟨λp hp=>K2.dn p (List.mem_reverse.mp hp),λp hp=>K2.b5 p (List.mem_reverse.mp hp)⟩
 have b3:∀p∈(l.map Prod.swap).reverse,p.1<6∧p.2<6:=λp hp=>b2 p (List.mem_reverse.mp hp)
 have nn:∀{is:List Nat},is.length=2*l.length→is≠[]:=λe q=>by rw[q]at e;have:0=2*l.length:=e;lia
 have ln:∀{is:List Nat},is.length=2*l.length→(∀i∈is,i<6)→(eM is).length≤1000:=λe h=>by have:=wS h;lia
 have lx:∀{is:List Nat},is.length=2*l.length→(∀i∈is,i<6)→ca is.length (eM is).cps.toList=some (is.map nc):=λe h=>by rw[kr];exact qM _ (nn e) h
 exact Br (w:=w) (x:=x) (ep:=ep) (h:=l.length) (ps:=ps) (is:=cL l) (k1:=6) (k2:=6) (k3:=6) (by lia) hT hi6 hlen h5 (B0 hlen h5) (ln hlen hi6) (ln hsl hs6) (ln hrl hr6)
  (lx hlen hi6) (lx hsl hs6) (lx hrl hr6) (uB hi6) (uB hs6) (uB hr6)
  (by rw[p1];exact uD b1 K1) (by rw[p2];exact uD b2 K2) (by rw[p3];exact uD b3 K3)
  (by rw[p1];exact p8 K1 b1 Ad (by lia)) (by rw[p2];exact p8 K2 b2 ne2 (by lia)) (by rw[p3];exact p8 K3 b3 ne3 (by lia))
  (by rw[p1,p2];exact zD b1 Ad)
  (λA hA ws hp _=>lO (hA.trans p1) K1 h5.1 hp) (λA hA ws hp _=>lO (hA.trans p2) K2 (by lia) hp)
  (λA ws c d hA hp _ hd' hc=>ji (hA.trans p1) K1 b1 h5.1 hp (L':=dX (cL l)) (λp=>by rw[p1]) (by rw[p1];lia) hd' hc)
  (λA ws c d hA hp _ hd' hc=>ji (hA.trans p2) K2 b2 (by lia) hp (L':=dX (hV (cL l))) (λp=>by rw[p2]) (by rw[p2];lia) hd' hc)
  (λA ws c d hA hp _ hd' hc=>ji (hA.trans p2) K2 b2 (by lia) hp (L':=dX (cL l).reverse) (λp=>by rw[p3,List.mem_reverse]) (by rw[p3];lia) hd' hc)
theorem holds:PySem.Challenge.rw_op0285_01.Holds:=tR ue
end Mine
theorem PySem.Challenge.cw_op0285_01_holds : PySem.Challenge.rw_op0285_01.Holds :=
 Mine.holds
