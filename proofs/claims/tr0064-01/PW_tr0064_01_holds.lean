import PyProof.Rows.All
import Wide.All
import OpenK.AllK
import Wide.FinOn
import PySem.Challenge.RW_tr0064_01
set_option Elab.async false
set_option bootstrap.genMatcherCode false
set_option genSizeOf false
set_option genInjectivity false
set_option maxRecDepth 100000
set_option maxHeartbeats 4000000
set_option linter.all false
namespace Mine
open PySem PySem.Spec PySem.Calls PyProof.Rows PySem.W PySem.W.X
noncomputable def dzB (F:Nat->Nat->Nat->Nat) (b s a n:Nat):Nat:=cond (Nat.ble b 127)
  (F (Nat.div s (Nat.pow 256 (Nat.succ b))) (Nat.add a (Nat.mul (Nat.mod (Nat.div s 256) (Nat.pow 256 b)) (Nat.pow 2 n))) (Nat.add n (Nat.mul 8 b)))
  (F (Nat.div s 16777216) (Nat.add a (Nat.mul (Nat.mod (Nat.div a (Nat.pow 2 (Nat.sub n (Nat.mul 8 (Nat.mod (Nat.div s 256) 65536))))) (Nat.pow 256 (Nat.sub b 125))) (Nat.pow 2 n))) (Nat.add n (Nat.mul 8 (Nat.sub b 125))))
noncomputable def dzR (t:Nat):Nat->Nat->Nat->Nat:=Nat.rec (motive:=fun _=>Nat->Nat->Nat->Nat) (fun _ a _=>a) (fun _ F s a n=>dzB F (Nat.mod s 256) s a n) t
noncomputable def dz (h n s t:Nat):Nat:=Nat.div (dzR t s h n) (Nat.pow 2 n)
noncomputable def zo0:Nat:=dz 0 0 0x300080300b6ed00b6ff00b6ff040404000405000680002ea900368300328a0034910036870404040404003082001691000b81020002000202020303020001000100010101120036810007840022800027810606060606060600060006000605050f0006830500050005050000000000000303000303030313 23
noncomputable def zo1:Nat:=dz zo0 4680 0x200070300b6ec00b6ff00b6ff017d82017481002ea900368300328a002991001587011081003082001693000b8800c7860008800007840045810027810501000380025281025082000682002084001b80001c83001f80002280 30
noncomputable def zo2:Nat:=dz zo0 4680 0x1919191b0400238f37010023823600350300239734010023823300320300238f1818180018000000310902048230002f00000019000019191717161717001700170000170016001616150300150400220007812e00150015151515151502002d0d004d832c002b002a0029001400280b000d810300001404001404000900078127001400141414141414020b00218100078304001304000500078126001300131313131313020025000e000480001b8124001223040014812200210012122000121204001204001200121212121212170008811f001e03015d83020202110f0500128f0009860f0e0f0f000f000f0f000e000e0e0e0f00e2821d001c030005811b000303033f841a0003190400098218000317040009821600031504001282140013000312000303040003040d000b82110100058110010006820f010092820b0b0b0d04001d8b0301000d88003980000e880b0b0b0a0a090a0a000a000a0b000a0009000909140046840124820801000d87000d8a001d80000e8806060605050406026f83060005000405003f8000db84026f820051810e01000a860d01000a860c01009285020002002180 86
noncomputable def zo3:Nat:=dz zo2 4744 0x257f401e88217010251d10251ff0251ff0251ff 7
noncomputable def zo4:Nat:=dz zo2 4744 0x244810267bb0221972e0101fe822d002c030244a02b010244882a01004382000480025289290102528c2800270026001325080006810301024e822401024e88230102018302568112010255800254811f001212030502528d1e001d030252b71c001b0004025c87027681025596031302000d82120100078102519a000d890254b702619803010251cf 45
noncomputable def zo5:Nat:=dz zo4 4640 0x24af401db8217010244c40244ff0244ff0244ff 7
noncomputable def zo6:Nat:=dz zo2 4744 0x24790024d8100238235003403002394024d8100238232003103022494024d810201822f002e030247962d01026282152a020006810301023f822901023f882801003b831403020251e90251ff02618a02448c0251930251ff 30
noncomputable def zo7:Nat:=dz zo6 4664 0x24df401de8217010247c70247ff0247ff0247ff 7
noncomputable def zo8:Nat:=dz zo4 4640 0x248960248ff290102648414002503000d810301023a892401023a8b0007830400130404023e822301023e882201023e8402418120010010811f001e03023e911d001c03023eb71b001a0300058119010004810244bf001d8b03010241c40234890244cf 34
noncomputable def zo9:Nat:=dz zo8 4672 0x24ef401df8217010248c80248ff0248ff0248ff 7
noncomputable def zo10:Nat:=dz zo8 4672 0x24190024781002382320031030023940247810023822f002e03021e9402478101fb822c002b030241962a01025c82152702000681030102398226010239882501003b83140302024bf0024bff023b8c0248930248ff 29
noncomputable def zo11:Nat:=dz zo8 4672 0x24790024d8100238232003103002394024d810023822f002e03022494024d810201822c002b0302018f01d88217010241842a01025c82152702000681030102398226010239882501003b83140302024bf0024bff023b8c0248930248ff 32
noncomputable def zo12:Nat:=dz zo6 4664 0x24a8a024aff024aff024aff00108c0247a30247ff 7
noncomputable def zo13:Nat:=dz zo12 4688 0x250f401e1821701024aca024aff024aff024aff 7
noncomputable def zo14:Nat:=dz zo2 4744 0x250fb000480000380024c9e142902024f82025682280102568d0301025a852701025a882601025a8525001224040014812300220012122107025a9120001f03025ab71e001d03000f811c00031b04003180002a810254c402648a02478c0254aa001d8b03010251dc 33
noncomputable def zo15:Nat:=dz zo14 4736 0x256f401e78217010250d00250ff0250ff0250ff 7
noncomputable def zo16:Nat:=dz zo2 4744 0x251fb000480000380024d98140302025f852c01025f8b023584280013002705000d8103010251cf0251ff02618a02448c0251930251ff 18
noncomputable def zo17:Nat:=dz zo16 4744 0x257f401e88217010251d10251ff0251ff0251ff 7
noncomputable def zo18:Nat:=dz zo4 4640 0x244fb0004800003800240982901025c821426020006810301023c822501023c8c1303001304050244fe002c800244870244ff02518d0234890244cf 20
noncomputable def zo19:Nat:=dz zo18 4640 0x24af401db8217010244c40244ff0244ff0244ff 7
noncomputable def zo20:Nat:=dz zo14 4736 0x25a93380000030254823601002396023f810254823301023796023f810254823001025a962f002e002d002c0015002b0b000d810301024c892a01024c882901003b8200078304001404040250f50250ff0243890253ba02438c0250cf 29
noncomputable def zo21:Nat:=dz zo20 4816 0x260f401f1821701025ada025aff025aff025aff 7
noncomputable def zo22:Nat:=dz zo18 4640 0x2519335000003024b823301002396023681024b823001022e96023681024b822d010251962c002b002a0029001500280b000d81030102438927010243882601003b8200078304001404040247b30247ff0247ff02378c0244cf 28
noncomputable def zo23:Nat:=dz zo18 4640 0x25793350000030251823301002396023c810251823001023496023c810251822d0102118f01e88217010251842c002b002a0029001500280b000d81030102438927010243882601003b8200078304001404040247b30247ff0247ff02378c0244cf 31
noncomputable def zo24:Nat:=dz zo4 4640 0x2519335000003024b823301002396023681024b823001022e96023681024b822d010251a02c010251882b01004d832a002903026b8214002603000d810301024389250102438b00078304001304040247c50247ff001d8b03010244a30244ff 33
noncomputable def zo25:Nat:=dz zo24 4744 0x257f401e88217010251d10251ff0251ff0251ff 7
noncomputable def zo26:Nat:=dz zo20 4816 0x25afb150302026c852f01026c882e01004d820241822b002a0014002907000d810301025e98000481000380025a83025aff000380025ac8001d8b03010257c20401025adf 23
noncomputable def zo27:Nat:=dz zo20 4816 0x260f401f1821701025a84150302026c852f01026c882e01004d820241822b002a0014002907000d810301025e98000481000380025a83025aff000380025ac8001d8b03010257c20401025adf 26
noncomputable def zo28:Nat:=dz zo8 4672 0x23e90024481002382320031030023940244810023822f002e03021b9402448101f8822c002b03023e962a01025982152702000681030102368226010236882501003b831403020248e00248ff02588a023b8c0248930248ff 30
noncomputable def zo29:Nat:=dz zo8 4672 0x24490024a8100238232003103002394024a810023822f002e03022194024a8101fe822c002b0301fe8f01d5821701023e842a01025982152702000681030102368226010236882501003b831403020248e00248ff02588a023b8c0248930248ff 33
noncomputable def zo30:Nat:=dz zo8 4672 0x248fb000480000380024498140302025685290102568b022c84250013002405000d8103010248c60248ff02588a023b8c0248930248ff 18
noncomputable def zo31:Nat:=dz zo8 4672 0x24ef401df821701024884000480000380024498140302025685290102568b022c84250013002405000d8103010248c60248ff02588a023b8c0248930248ff 21
noncomputable def zo32:Nat:=dz zo14 4736 0x24dfc030102519700078304001404040255822c0102558b02358229001328040006810301024d80024dff000380024dd50240890250aa02608a02438c0250cf 21
noncomputable def zo33:Nat:=dz zo32 4712 0x253f401e4821701024dcd024dff024dff024dff 7
noncomputable def zo34:Nat:=dz zo14 4736 0x24d9d024dff024dff024dff0240890250960250ff 7
noncomputable def zo35:Nat:=dz zo34 4712 0x253f401e4821701024dcd024dff024dff024dff 7
noncomputable def zo36:Nat:=dz zo18 4640 0x247870247ff0247ff0247ff02549803010244960244ff 8
noncomputable def zo37:Nat:=dz zo18 4640 0x24df401de8217010247920247ff0247ff02549803010244960244ff 10
noncomputable def zo38:Nat:=dz zo2 4744 0x2001008982017a800064810401027f82040101a4861b000201ad8101ae8400c0820303150014050012821300120003110010000901c3810253a6025181 18
noncomputable def zo39:Nat:=dz zo0 4680 0x11312120400068312001200121206014686110100418d00128000418b0e000e0e0e0e0e0e02000e0b0041a200128000418b0c000c0c0c0c0c0c02000d0b00419b0067800083820a0a040504001d890a000a0a0a0a0a0a02000c000c010880000580005d8200508303030309090109070004810900090300a08000e382050102a08108000803002c80003482000981000481070707070402908207000707040033830601001381004d820501001883000580000e8200e484003c82025480025b81080100088500068302498a 54
noncomputable def zo40:Nat:=dz zo1 4680 0x101029d8000378402c884001680003d811b1b25252525250700d2870005812424242404027981009d8f10000003047884009581047c84230023030030852207220004000481222222220400308222002222040007831e00000300ca8421002100020500be832007200004000481202002000980008a8120002020040422831f01009c82061f1f0300158e1e061e1e04004b8601a388011902024f811c1c1d1d1d1d1d0508001486001b81021a1a1a1a1a06017385001583191900191919190700088000708d01d9841717030204005889170017171717171702000f0b00408000149100000200128f02000200368000308101070007000707070101030b00ec8300e8860b0b020021810101160300428f0e0100428814010012870009861206121200120012120006000606060f0042900d0100428811010012870009860f050f0f000f000f0f09007580006f800042880a0a0a000a0000000c090065820b000b0b0b0b0e070012870009860c040c0c000c000c0c09025e83090909020909000900090000090d00058000288601010108080808080808000800080e 98
noncomputable def zo41:Nat:=dz zo40 5272 0x299ec0299ff0299ff0299ff0299ff01cd820901029399 8
noncomputable def zo42:Nat:=dz zo40 5272 0x293c500010293bf0293ff0293ff0293ff0293ff 7
noncomputable def zo43:Nat:=dz zo41 5320 0x299c500010299c50299ff0299ff0299ff0299ff 7
noncomputable def zo44:Nat:=dz zo40 5272 0x285830287dc0287ff 3
noncomputable def zo45:Nat:=dz zo41 5320 0x28b83028de2028dff 3
noncomputable def zo46:Nat:=dz 0 0 0x10200010400238200178400188209090000030303030000050b000581000481000000010400000604040a 8
noncomputable def zo47:Nat:=dz zo46 400 0x2f920606000004003293 3
noncomputable def zo48:Nat:=dz zo39 2840 0x10b0a03012881008191021b8201cb80002c8000348209080900040004810909090904020981011281003381022f86021a810701001883000580000e82080807080808080702038101d38101d481090100968b01c9830044920030a6018682000002001592020202000305001d83000580001382015c80000481000380015180016982018580000e8b015f9100ed80 44
noncomputable def zo49:Nat:=dz zo39 2840 0x101001c80011281003f810f01005c820101007e82050008080605006a8a0800080808080808020001060c006d8c000202000480014a8302010101070d06010580 17
noncomputable def zo50:Nat:=dz zo49 712 0x1060603009980011a84000a84170518000505010684170100058217171717000500889d1704000300c380003187007b8d040404040400558b001781120300030191830000160000110307000481001682040006000505001c82001582005383160016160400b89c040010030400a68b0000120d000d150d0e0e0e0511000e001c81051400140400308513081300040004811313131304003082130013130400038000de82003b83050012001205003380002d82110811000400048111111111000505000011001111000e000682100100ae820710100300158e0f070f0f0400519b0e0b0e0e0400518f051000050400128000658b0c000c0c0c0c0c0c02000a0066990b000b0b0200030700598200508200518204010059d4 68
noncomputable def zo51:Nat:=dz zo50 4672 0x10000140400e48701ee820a0102169018051603021686180100058218181818000500889d1504000302558000318700148b02168300558b050102e28101e587170102a480021682001682021692018b8101079c04000e0302168b002a8002cf8100128002cf8b1500151515151515021300001314140f00080b00001501a185019e8800a48f0e08000812080b0b0b050d0b01c783020480003085100810000400048110101010040030800201811010020030830c0101c7860f000f03003382029a810801000f810003800178800126820e000e0e040127830d0101c7830d0d0200158202148a070102189e0b01021890021c81021a8101af8d09000909040050830801020483 76
noncomputable def zo52:Nat:=dz zo50 4672 0x101028780005c870132820901015a9015051103015a86150100058215151515000500d39c05000d030400518b026281000502001280029b8b01eb85021100001112120e000f0a00000d016d85016a8800708f0d0f000f100f0a0a0a040005000e000e100197850d080d00040004810d0d0d0d040126820d000d0d040127830c0101c783022d900b070b0b0400879b0a0b0a0a0401c78e09000909090902000801af8d022a810050830801020483 44
noncomputable def zo53:Nat:=dz zo1 4680 0xc86009089003a87024781 4
noncomputable def zo54:Nat:=dz zo1 4680 0x2803020035811f010144861d010035862a010035b129010035b128010035b127010035b00326020070a41b1b1b1b1b1b1b001b001b001b1a1a0f0006831a001a001a1a060144a0190100358625010035b124010035b123010035b122010035b00321020070a41717171717171700170017001716160f000683160016001616060144a0150100358620010035b11f010035b11e010035b11d010035b0031c020070a41313131313131300130013001312120f000683120012001212060144a011010035861b010035b11a010035b119010035b118010035b00317020070a40f0f0f0f0f0f0f000f000f000f0e0e0f0006830e000e000e0e060144a00d0100358616010035b115010035b114010035b113010035b00312020070a40b0b0b0b0b0b0b000b000b000b0a0a0f0006830a000a000a0a0601449f00090200358611010035b110010035b10f010035b10e010035b0030d03000400f58600978500338d0031810707070707070700070007000706060f000683060006000606000008002f8e02519e002c83000580024786 107
noncomputable def zo55:Nat:=dz zo40 5272 0x885000b8200fd82000e8b001b8d008f8600d281008582100010001010100202020f090f00090f002b820d0e0e0e0e0e000d000d0d0d0c01fd830056820a0a0a02020c060015880f01001590090e0903002e810175810808070302a180029f81000802016b820a030101010206 26
noncomputable def zo56:Nat:=dz zo55 1440 0xbaa200baff008a82080100b48a 5
noncomputable def zo57:Nat:=dz zo55 1440 0x9ff000b4a9 2
noncomputable def zo58:Nat:=dz zo55 1440 0xa5f000ba9c008a82080100b48a 5
noncomputable def zo59:Nat:=dz zo55 1440 0x88ea008a8100b494 3
noncomputable def zo60:Nat:=dz zo55 1440 0x8eea00908b008a82080100b48a 5
noncomputable def zo61:Nat:=dz 0 0 0x190019001919190e0409000b821a0100058119010006821801008f821616161804000d87000d8a003980000e881616161515141515001500151600150014001414140046820041811111111304000d88000d8a050002000e8811111110100f101000100010110010000f000f0f140006820000000e0e0e0e0e0e0200170c000a861601000a8615000d000d000d0d0d02000202110300100300130019830f01000f82110800080a080d03000c0a001281000882010b0300010001010a03000101000e 35
noncomputable def zo62:Nat:=dz zo54 15960 0x10500000800080808001f810515830d0007040000070708015288 5
noncomputable def zo63:Nat:=dz zo62 296 0x1060f0600000003080014800025a0 3
noncomputable def zo64:Nat:=dz 0 0 0x160e000e130e141414160a001d881501001d991401001d981313130000000300140500050005050502141412120c121200120012000012000c000c0c010101010303112b0012870009860f0d0f0f000f000f0f000d000d0d0d0f10000b8201010e03000d06000a830c03000b0300010100000a030001000f 14
noncomputable def zo65:Nat:=dz zo64 1504 0xc2e8006582120100bcce 4
noncomputable def zo66:Nat:=dz zo39 2840 0x1f0f000f110f14070069d80087ff0078f5003cb9001e9b000f8c1201000380013584002280001981000c80001e820010101210100600148310111111111e1100111109000000100010001010140245851a030201db820d0b0d000b000b0d0b070a016282000c86000002000a8201e2810107000301ca820105001c0401e58300dc83010808080400a8800015881b0700170400158e190700150400158e170700130400158e150700110400158e1307000f0400158e1107000d0400158d070f07000b03080000080806060506060006000614012980013581050101010a0300030009 50
noncomputable def zo67:Nat:=dz zo66 6112 0x302e00087ff0230ff0302ff0302ff0302ff026982060102fc8c 9
noncomputable def zo68:Nat:=dz zo66 6112 0x1d0104cd8210010069d80087ff0078f5003cb9001e9b000f8c0e0e0e0e0e0e0e000e000e0b002280001981000c80001e82000c0c0e0c0c060014830c0d0d0d0d1c0d000d0d0a02bc810c000c000c0c0602bc85180102bc830104001a0402e79002fc9202fcff 26
noncomputable def zo69:Nat:=dz zo68 5600 0x2c2a00087ff0087ff01a5ff02c2ff02c2ff023e82060102bc8c 9
noncomputable def zo70:Nat:=dz 0 0 0x4040011001100111111130300010e0e0e1012001588150d00110400158e130d000f0400158d0d110d000d03000e000e0e0c0c0b0c0c000c000c00000c000b000b0b010001010c03000b24000883000a03000101000108 9
noncomputable def zo71:Nat:=dz zo70 960 0x7ed80039820c0100789a 4
noncomputable def zo72:Nat:=0x6394c4c7cc525817f78642f2deb0475c57cdf8cb4a788ab09f7bd11592ed761aa23d6e425243a5b82a07f3b49c772b30130de361fa519c2bbe482f7d67a8c56eaaf04eda8ed108d94dd210fae939401b551707c2e9a0dcf689ed8e84cf39a9c079a6b4360b2cc66680e496c8c80
noncomputable def zo73:Nat:=0x1895f18e32f27db0c45a47a5f84ac7f2bb0148de16dfbc4e2f75974944ecaee1187d555b210ba29b43e0f3509ec8e81c93581aff8a5ae31f7049585bdde8ea8a79bb6a2a825dec434c43ad68290773a8fd10ce349ea015bb6d0767846b9ce4e06d331b9a099e535300b2c866580
noncomputable def zo74:Nat:=0x18c6c7e4a2f8987b925b0aff520ae05de6394beb7c468a4ef2cef1095d57da191b8abac2216d4f4823ed28e7ca00eb29f8bf1b613707c32ba5def45d649b9e0aaa8d16d7626a21d8e845341adc87a47f5380d44f696e1684f3ba1b049c733b50734de6680a61acacc0cb3391900
noncomputable def zo75:Nat:=0x4ac7f0c31938bd9761230fa2cbe3e0f255746bfe0a2dbddc9ac8b77b125712e7522aa1dbe8414c2b5cc7a883c8727816788d4cfec701895f57de2d23dadb852379544a2775368842ea9ec0e81cd2d618fb8a3a829e6f4349d6d3f40438d6767066da4dcc08d339994099652f200
noncomputable def zo76:Nat:=0x18632b1fc612717b2f230fa2cbf0792aba3f828b635fbddc9ac8bd892b89748aa8773aa9856fa10836b98f509e059e439fd8e235357e0312bede2d23dac291bcabbb68944eea0842ea9ec40e696b0ee28ea0c7e8690a79bb69fa021d9d9c19c6b9811b693409a6733299652f200
noncomputable def zo77:Nat:=0x4a318d8fcf724be260bfd482d8702ef31ca94beb7c46ef149de58afb442576e2aeb0c890b6a7a42823ed28e69f9401d66c26e2fc68cae9783e7a2eb24dfb9e0aaa8ea22daec488a68763a721e920d7a9c06a27cf696e168049e774366a0e71ccf99a029a6cd65660664b3391900
noncomputable def zo78:Nat:=0x6394c4c7c605fde293eb0c85e5a3ae2be7014f17e32def7a2ac2711592ed748f5b90d55b84a4874503f9da823b959809ec3f4c378a519c2bbedf59ea416f118add55109db51deca6e908872803eba41b551707e8373c174b63a1344f079e7353935a1b0598d01cb319e496c8c80
noncomputable def zo79:Nat:=0x4a318d8fc61ee497c45b0aff523cc72b8175f5be23148a4ef2ceeafb4425748dc55d61f48442da9b4a39c11f007594fc93717e36c0cae9783edef45d649551ee7829d89a88b6a1d8e84530f4906b73a9c06a27e81ed2dc2b6093cee8399da839c0a69bccd32b30330d4b3391900
noncomputable def zo80:Nat:=0x31c66257cc45e4fb605a47a5f863f95d80af85b7ca46bc4e2f7584a27657761f555708f4536c84251687c1e63a0724f65ff14d606f04b5c63e49585bddf5453cdc8dded45504ec434c43a41483b9d744338d47c2b7d27a8683b3c23639381b5cf34134cc6c0b3ca6a632c866580
noncomputable def zo81:Nat:=dz zo79 880 0x6363f2518925f130f6bfd482d84ae05de63f88c52fadef149de59755f6884a191b8abaa9e90885b1f69473823aca7e5038bf1b613574bc1f0c7a2eb24de8f73c155516d7626a08a68763ad6e43d24144fea7019b85a07b458006e93 2
noncomputable def zo82:Nat:=0x18f98e531605fde29321796f5870475c57cf8bf1969427def4558ac976bb121aa23d6e5b84a4874e76a0a81e3b959809d30de361fbe4a33857acf520bdfbaabc46284eda8ed12111b29ba72803eba545c1f0dab4d06e78284d13db1d380f3ce6ad0d82cd3663334072e496c8c80
noncomputable def zo83:Nat:=dz zo78 880 0x3131f31caf78a4b02f21796f584af9c11d75f8cb4a7827def45597622b25d9511eb721f4b70949082a07f3b5cacc04e39fa61bc6c0ce15df25acf520bde8c56eaaf2a3b44276a111b29bad749ca00ee0f86d5442e9a0dcf3659006e92 2
noncomputable def zo84:Nat:=0x18632b1fcc5ecbb092be461f45bc955d1f046bfe0a2d5916f7727d892b89761dcea45510530adf4b5cc7a88302cf21c9c6a67f638d7e0312be48f6b6f17b85237956a6d1289da1754f608d61d039a4e28ea0c7c29e6f434e80875b4f6b3b3833808db49b9a6650269999652f200
noncomputable def zo85:Nat:=dz zo76 880 0x4ac7f0c31c5ecbb093e8b2f9184aae8f83cad8d7fc148b7bb935977b125713a91550ee10530adf45106d731f02cf21c9ec711a99ff01895f571691ed6de8de55dc29dd4da25153d8210bad61d039a418fb8a3a8f37a1a4258006e93 2
noncomputable def zo86:Nat:=0x1895f18e3f6c31179384b48f4be3f95d80aadbe52378eeb2f138b74944ecae1f555708a9b6421741f079a8b564740e49dff14d606a5ae31f7016f77a4adb91d514f1ded45504a1a621d6c0ee75a0a5a8fd10ce28056fa4f1d9e11b6806d739c9d98dcd04d26016794d32c866580
noncomputable def zo87:Nat:=dz zo77 880 0x6363f25182f8987b9320b615febcc72b8172df118a5f59de293bd755f688488dc55d61c2216d4f4e7047da51ca00eb29d3717e36c574bc1f0c175926f7af055547b9d89a88b6ec74229a141adc87a544fea70182d03da5b8459006e92 2
noncomputable def zo88:Nat:=dz zo86 880 0x31c66257c2f27db0c5e97e12d230158fe5746f0b6f9459789c5ee4a2765777aaab8461db210ba2983cd45a1e9ec8e81c86bfe29ac704b5c63eac2deef48f3723aa2915412ef68875b10d3d6829077344338d47dbe93d4029d59006e92 2
noncomputable def zo89:Nat:=dz zo84 880 0x63f8618ca612717b2fe8b2f91863e0f2557145b1aff88b7bb9358495c4bbdae7522aa1a9856fa10e63d441b49e059e43b88d4cfec3eafc06251691ed6df5770a46f04a277536d3d8210ba40e696b0fa831f7145bd0d214f6859006e92 2
noncomputable def zo90:Nat:=dz zo80 880 0x4af8c7198f6c311792bf09691eb0158fe57148de16df2717bacbd13b2bba4baaab8461a9b642174b43e0f35164740e49c6bfe29ac3ee096b8cde92b0b7a8ea8a79b915412ef6d310eb6210ee75a0a4e351fa21b49ea015be859006e92 2
noncomputable def zo91:Nat:=dz zo82 880 0x4a6263e63c525817f7eb0c85e58af9c11d72d29e2fc6ef7a2ac264bb5d88ad511eb721c25243a5bb50540fe69c772b301fa61bc6c577c94670df59ea4162b755788ea3b44276eca6e90880fae939407c36aa2e1b9e0ba680459006e92 2
noncomputable def zo92:Nat:=dz zo73 880 0x63312be31c45e4fb6184b48f4bf0158fe575f291bc2deeb2f138bd95dd2513aaab8461f4536c842e6a2d0f823a0724f646bfe29ac0c7dc12d716f77a4ac29e6e475515412ef6a1a621d6c41483b9d67e88671a8f500adf458006e93 2
noncomputable def zo93:Nat:=0x3131f31cac525817f65bd6190be3ae2be7078bf19694584fbde8b7622b25d88f5b90d5425243a5be76a0a81e9c772b302c3f4c3788ce15df257a905efadbaabc4629109db51dd3748446c0fae93940e0f86d5474d06e7829d09a27b69cd4e03ce0b34d686d99a039666496c8c80
noncomputable def zo94:Nat:=0x4a6263e63605fde2925bd6190bfce08eb8adf8cb4a78584fbde8a4bb5d88afadc86a88db84a487482a07f3b43b959809f8d87e986d77c946707a905efac8c56eaaf36d476884d3748446c72803eba47c36aa2e02e9a0dcf4f6c742686a701e79c6c1669ad00e598ccd6496c8c80
noncomputable def zo95:Nat:=0x1895f18e3c45e4fb60bf09691ebcaec0563c6f0b6f942717bacbd74944ecad55c230faf4536c84283cd45a1e3a0724f66c0d7fc5325ae31f70de92b0b7af3723aa284bbda8aa5310eb62141483b9d7a8fd10ce1be93d402846da0ecf9c0dae7386e682699b29a98059b2c866580
noncomputable def zo96:Nat:=0x4af8c7198c45e4fb61e97e12d20ac7f2bb02dbe5237859789c5ef13b2bba4ae1187d5574536c8421f079a8b43a0724f653581aff8bee096b8cac2deef49b91d514f36a2a825d8875b10d341483b9d6e351fa21a8056fa4f4f08db41dce727036a09a663734d4c02cf2b2c866580
noncomputable def zo97:Nat:=0x63f8618ca938bd9760be461f458aae8f83cf828b635f5916f7726495c4bbdba91550ee5be8414c2836b98f51c87278166c711a99fbeafc062548f6b6f16291bcabb9dd4da25121754f6080e81cd2d7a831f71468690a79b843ada7e8ce0ce359d3730236d19ccca04d19652f200
noncomputable def zo98:Nat:=dz zo76 880 0x31958fe18938bd976187d165f23c955d1f0145b1aff826b22deeeae25dec4a1dcea4555be8414c2e63d441b5c872781646a67f638a57d5f80c7b5b78b495770a46f2a6d1289dec1085d530e81cd2d67dc51d419bd0d214f3659006e92 2
noncomputable def zo99:Nat:=dz zo72 880 0x4a6263e6392c0bfbc521796f5863ae2be70465a53c5f27def45584bb5d88ac8f5b90d510e96e1291fced4151660271dcac3f4c378d77c94670acf520bdf55e2315b9109db51da111b29ba401f5d2727c36aa2e0f05d341be859006e92 2
noncomputable def zo100:Nat:=dz zo86 880 0x63312be3193ed8622ebf09691e8ac7f2bb0785b7ca462717bacbdd95dd2512e1187d5542e8a6d9051687c1e703927b2393581aff88c7dc12d7de92b0b7b5453cdc8f6a2a825dd310eb62173ad0520e7e88671a82b7d27a858006e93 2
noncomputable def zo101:Nat:=dz zo79 880 0x18c6c7e4af724be261857fa905a395c0bbcadf118a5fbcb3bc5271095d57d95758646e10b6a7a42e7047da509f9401d646d84dc5ff07c32ba5ac937bd16f055547bb6bb135115343b1d08721e920d67f5380d442d03da5b58006e93 2
noncomputable def zo102:Nat:=dz zo94 880 0x18f98e531f78a4b02f8642f2dea3ae2be702d29e2fc68ab09f7bcac976bb108f5b90d574b709490b50540fe7cacc04e3ac3f4c378be4a33857482f7d67a2b755788d109db51d88d94dd21d749ca00f45c1f0da9b9e0ba6858006e93 2
noncomputable def zo103:Nat:=dz zo97 880 0x31958fe182ec24e2f7e8b2f91870792aba3c6bfe0a2d8b7bb9358ae25dec488aa8773af420a615bb5cc7a8836790e4f01fd8e2353257d5f80c1691ed6dfb8523795768944eea53d8210ba734b587407dc51d41829e6f43458006e93 2
noncomputable def zo104:Nat:=dz zo96 880 0x31c66257c93ed8622f84b48f4bfcaec0563948de16dfeeb2f138a4a276577555c230fac2e8a6d90b43e0f35103927b23ac0d7fc53704b5c63e16f77a4ac8ea8a79b84bbda8aa21a621d6c73ad0520f44338d47f49ea015bcf59006e92 2
noncomputable def zo105:Nat:=dz zo75 880 0x63f8618cac5ecbb09387d165f230792aba3dff0516c626b22deee495c4bbd88aa8773a90530adf41ea20dae702cf21c9dfd8e23533eafc06257b5b78b48f2aee148f68944eea6c1085d53d61d039a5a831f71474853cde81d59006e92 2
noncomputable def zo106:Nat:=0x31f928c63925f130f7857fa905bcc72b81714beb7c46bcb3bc527da212baac8dc55d61a9e90885b823ed28e63aca7e5013717e36c3e195d2f0ac937bd17b9e0aaa8dd89a88b6d343b1d08d6e43d2401a89fd4e0f696e168686c1279d0738e676a6f3340535981986b2cb3391900
noncomputable def zo107:Nat:=dz zo82 880 0x3131f31ca92c0bfbc58642f2debce08eb8a94f17e32d8ab09f7bd7622b25dbadc86a8890e96e129503f9da83660271dcb8d87e9868ce15df25482f7d67af118add576d47688488d94dd21401f5d272e0f86d5468373c17458006e93 2
noncomputable def zo108:Nat:=dz zo106 880 0x18c6c7e4a61ee497c520b615feb02ef31caf88c52fad59de293bd1095d57dae2aeb0c8f48442da91f6947383007594fcac26e2fc6f07c32ba5175926f7a8f73c1556a22daec4ec74229a10f4906b727f5380d45b85a07b4e859006e92 2
noncomputable def zo109:Nat:=0x63f8618ca2ec24e2f7230fa2cbfc955d1f02d8d7fc14bddc9ac8a495c4bbda1dcea4557420a615b5106d731f6790e4f006a67f638beafc0625de2d23dac8de55dc2aa6d1289d8842ea9ec734b58741a831f7144f37a1a42cfd010eb60671aceced26e6046f28134ce619652f200
noncomputable def zo110:Nat:=0x31f928c63f724be26120b615fe8ae05de63df5be231459de293bdda212baae191b8aba90b6a7a42b4a39c11e9f9401d678bf1b6133e195d2f0175926f7b551ee782916d7626a6c74229a1721e920d61a89fd4e281ed2dc29dd0d824fced41ce38d014d37980cc35959cb3391900
noncomputable def zo111:Nat:=dz zo74 880 0x4a318d8fc925f130f720b615fea395c0bbcc6297d6f859de293bcafb4425755758646e29e90885b51ce08fb43aca7e5006d84dc5f8cae9783e175926f7a2aaa3dcf36bb135116c74229a1d6e43d241a9c06a27f4b70b40f58006e93 2
theorem om1 {a b c d:Nat}:a≤b->c + b<d->c + a<d:=by (intros; lia)
theorem om2 {a:Int}:-100000<a->-2 ^ 64<a:=by (intro h; exact Int.lt_trans (by decide) h)
theorem om3 {a:Int}:a<100000->a<2 ^ 64:=by (intro h; exact Int.lt_trans h (by decide))
theorem om4 {a b:Nat}:a + 1≤b->a≤b:=by intro h0; exact Nat.le_of_succ_le h0
theorem om5 {a b:Nat}:a + 1≤b->a<b:=by intro h0; exact Nat.lt_of_succ_le h0
theorem om6 {a:Nat}:1 + a=a + 1:=by exact Nat.add_comm 1 a
theorem om7 {a b:Nat}:a<1000->b<1000->b + (a + 0)<2000:=by (intros; lia)
theorem om8 {a b:Nat}:¬a<b->b≤a:=by (intros; exact Nat.le_of_not_lt ‹_›)
theorem om9 {a b c:Nat}:a=b->c<a->c<b:=by intro h0 h1; exact Nat.lt_of_lt_of_eq h1 h0
theorem om10 {a b:Nat}:a<b + 1->¬a<b->a=b:=by intro h0 h1; exact Nat.eq_of_lt_succ_of_not_lt h0 h1
theorem om11 {a:Nat}:175<a->168<a:=by (intros; lia)
theorem om12 {a b c:Nat}:a + 245<b->c≤a->c + 245<b:=by (intros; lia)
theorem om13 {a b:Nat}:a + 1<1000->a=b->b<1000:=by (intros; lia)
theorem om14 {a:Int} {b:Nat}:a=(↑b:Int)->0≤a:=by (intros; subst_vars; simp +arith)
theorem om15 {a:Int} {b:Nat}:a=(↑b:Int)->b<2000->a<2 ^ 63:=by (intros; subst_vars; omega)
theorem om16 {a b:Nat}:a<b->¬a=b:=by intro h0; exact Nat.ne_of_lt h0
theorem om17 {a b:Nat}:a≤b->175<a->b ≠ 168:=by (intros; lia)
theorem om18 {a b:Nat}:a + 1<1000->a=b->b + 1<1000:=by (intros; subst_vars; omega)
theorem om19 {a b:Nat}:a≤b->175<a->b ≠ 175:=by (intros; lia)
theorem om20 {a:Nat}:a<a + 4:=by (intros; simp +arith at *; done)
theorem om21 {a b c:Nat}:a<b->a<b + c:=by intro h0; exact Nat.lt_add_right c h0
theorem om22 {a b c d:Nat}:a≤b->c<a->c<b + d:=by (intros; lia)
theorem om23 {a b c:Nat}:a≤b->c<a->c<b:=by (intros; exact Nat.lt_of_lt_of_le ‹_› ‹_›)
theorem om24 {a:Nat}:¬2 * a + 1=0:=by exact Nat.add_one_ne_zero (2 * a)
theorem om25 {a:Nat}:(2 * a + 1) % 2=1:=by (intros; simp +arith at *; done)
theorem om26 {a:Nat}:(2 * a + 1) / 2=a:=by (intros; grind)
theorem om27 {a b c:Nat}:2 * a * b + (a + c)=2 * a * b + a + c:=by exact Eq.symm (Nat.add_assoc (2 * a * b) a c)
theorem om28 {a:Nat}:¬2 * a + 2=0:=by exact Nat.add_one_ne_zero (2 * a + 1)
theorem om29 {a:Nat}:¬(2 * a + 2) % 2=1:=by (intros; simp +arith at *; done)
theorem om30 {a:Nat}:(2 * a + 2) / 2 - 1=a:=by (intros; simp +arith at *; done)
theorem om31 {a b c:Nat}:2 * a * b + (2 * a + c)=2 * a * b + 2 * a + c:=by exact Eq.symm (Nat.add_assoc (2 * a * b) (2 * a) c)
theorem om32 {a b:Nat}:a<b->b≤a->False:=by (intros; exact Nat.not_lt_of_le ‹_› ‹_›)
theorem om33 {a b:Nat}:a<b + 1->¬a=b->a<b:=by (intros; lia)
theorem om34 {a b c:Nat}:a=b->c=b->a=c:=by (intros; subst_vars; simp +arith)
theorem om35 {a b:Nat} {c:Prop}:a<b∧c->a<b + 1:=by (intros; lia)
theorem om36 {a b:Nat}:a<b->a<b + 1:=by intro h0; exact om21 h0
theorem om37 {a b:Nat}:a + 1 + b=a + (b + 1):=by exact Nat.succ_add_eq_add_succ a b
theorem om38 {a b:Nat}:a + (b + 1)=a + 1 + b:=by exact Eq.symm om37
theorem om39 {a b c d:Nat}:a≤a + b + c + d:=by (intros; simp +arith at *; done)
theorem om40 {a b c d:Nat}:a≤b + 16 * c->d≤16->a + d≤b + 16 * (c + 1):=by (intros; lia)
theorem om41 {a b c d e:Nat}:a + b<c->d=b + e->e≤a->d<c:=by (intros; lia)
theorem om42 {a b:Nat}:a≤13->b + 5 * a≤b + 70:=by (intros; grind)
theorem om43 {a b c:Nat}:a + 70<b->c≤a + 70->c<b:=by (intros; exact Nat.lt_of_le_of_lt ‹_› ‹_›)
theorem om44 {a b c:Nat}:a + 300<b->c≤a + 208->c + 20<b:=by (intros; lia)
theorem om45 {a b c d:Nat}:a + 300<b->c≤a + 208->d≤16->c + d<b:=by (intros; lia)
theorem om46 {a b:Nat}:a≤b + 208->a≤b + 210:=by (intros; lia)
theorem om47 {a b c d:Nat}:a<b->c<d + a->c - d<b:=by (intros; lia)
theorem om48 {a b:Nat}:¬a<b->b + (a - b)=a:=by (intros; grind)
theorem om49 {a b c:Nat}:a<b + c->¬a<b->a - b=c->False:=by (intros; grind)
theorem om50 {a b c d:Nat}:a<125->a / 5 + 25 * ((b * (a % 5) + c * (a / 5 % 5) + d * (a / 25)) % 5)<125:=by (intros; lia)
theorem om51 {a b:Int}:a % 5=b->a=5 * (a / 5) + b:=by (intros; grind)
theorem om52 {a b c d:Nat}:a / 5 % 5=(a / 5 + 25 * ((b * (a % 5) + c * (a / 5 % 5) + d * (a / 25)) % 5)) % 5:=by (intros; grind)
theorem om53 {a b c d:Nat}: a<125->a / 25=(a / 5 + 25 * ((b * (a % 5) + c * (a / 5 % 5) + d * (a / 25)) % 5)) / 5 % 5:=by omega
theorem om54 {a b c d:Nat}: a<125->(a / 5 + 25 * ((b * (a % 5) + c * (a / 5 % 5) + d * (a / 25)) % 5)) / 25=(b * (a % 5) + c * (a / 5 % 5) + d * (a / 25)) % 5:=by (intros; grind)
theorem om55 {a:Int} {b:Nat} {c:Int} {d:Nat} {e:Int} {f:Nat}: (5 * a + (↑b:Int) + (5 * c + (↑d:Int)) + (5 * e + (↑f:Int))) % 5=(↑((b + d + f) % 5):Int):=by (intros; grind)
theorem om56 {a b:Nat}:(1 - a + 2 * b) / 1 % 2=1 ↔ a=0:=by (intros; simp +arith at *; omega)
theorem om57 {a b:Nat}:(1 - a + 2 * b) / 2=b:=by (intros; grind)
theorem om58 {a:Nat}:(1 - 0 + 2 * a) % 2=1:=by (intros; simp)
theorem om59 {a b:Nat}:¬a=0->¬(1 - a + 2 * b) % 2=1:=by (intros; lia)
theorem om60 {a b:Nat}:a=31->b<31->b<a:=by (intros; subst_vars; omega)
theorem om61 {a b:Nat}:a=b->a≤0 + b:=by (intros; subst_vars; simp +arith)
theorem om62 {a b:Nat}:a + 1≤b + 1 + a:=by (intros; simp +arith at *; done)
theorem om63 {a b c:Nat}:a≤b + 0->a≤b + 1 + c:=by (intros; lia)
theorem om64 {a b c:Nat}:a≤b + (c + 1)->a≤b + 1 + c:=by (intros; simp +arith at *; omega)
theorem om65 {a b:Nat}:a≤31 + 0->b=a->b<100:=by (intros; lia)
theorem om66 {a b c:Nat}:a<2 ^ b->1 - c % 5 + 2 * a<2 ^ b * 2:=by omega
theorem om67 {a b c:Nat}:(30 * (↑a:Int) + 59 * (↑b:Int) + 11 * (↑c:Int)) % 5=(↑((4 * b + c) % 5):Int):=by (intros; grind)
theorem om68 {a b c d e f:Nat}: 2 * (a * b) + (a * c + 2 * (a * d)) + (e * b + (e * c + 2 * (e * d)) + (2 * (f * b) + (2 * (f * c) + 2 * (f * d))))=2 * (a * b) + a * c + 2 * (a * d) + (e * b + e * c + 2 * (e * d)) + (2 * (f * b) + 2 * (f * c) + 2 * (f * d)):=by (intros; simp +arith at *; done)
theorem om69 {a b c d e f g h i:Nat}: (30 * ((4 * (↑a:Int) + 2 * (↑b:Int) + 2 * ((↑c:Int) + (↑d:Int)) + 3 * ((↑e:Int) + (↑f:Int))) % 5) + 59 * ((4 * (↑b:Int) + 2 * (↑g:Int) + 2 * ((↑h:Int) + (↑i:Int)) + 3 * ((↑c:Int) + (↑d:Int))) % 5) + 11 * ((4 * (↑g:Int) + 2 * (↑a:Int) + 2 * ((↑e:Int) + (↑f:Int)) + 3 * ((↑h:Int) + (↑i:Int))) % 5)) % 5=(↑((2 * a + h + 2 * d + (i + b + 2 * e) + (2 * c + 2 * f + 2 * g)) % 5):Int):=by (intros; grind)
theorem om70 {a b c:Nat}: 0≤(↑a:Int)∧(↑a:Int)<5->0≤(↑b:Int)∧(↑b:Int)<5->0≤(↑c:Int)∧(↑c:Int)<5->25 * a + (5 * b + c)<125:=by (intros; grind)
theorem om71 {a b c:Nat}: 0≤(↑a:Int)∧(↑a:Int)<5->0≤(↑b:Int)∧(↑b:Int)<5->(25 * c + (5 * a + b)) / 25=c:=by (intros; grind)
theorem om72 {a b c:Nat}: 0≤(↑a:Int)∧(↑a:Int)<5->0≤(↑b:Int)∧(↑b:Int)<5->(25 * c + (5 * a + b)) / 5 % 5=a:=by omega
theorem om73 {a b c:Nat}:0≤(↑a:Int)∧(↑a:Int)<5->(25 * b + (5 * c + a)) % 5=a:=by (intros; grind)
theorem om74 {a:Nat}:a<124->(a + 1) / 25<5:=by (intros; lia)
theorem om75 {a:Nat}:a<5->(↑a:Int) % 5=(↑a:Int):=by (intros; lia)
theorem om76 {a b c:Nat}:a<5->b<5->c<5->a + (5 * b + 25 * c)<125:=by (intros; lia)
theorem om77 {a b c:Nat}:a<5->(a + (5 * b + 25 * c)) % 5=a:=by (intros; grind)
theorem om78 {a:Nat}:a + 1<125->a<124:=by intro h0; exact Nat.succ_lt_succ_iff.mp h0
theorem om79 {a b:Nat}:a<2147483648->(a + 2147483648 * b) / 2147483648=b:=by (intros; grind)
theorem om80 {a b:Nat}:a<2147483648->(a + 2147483648 * b) % 2147483648=a:=by (intros; simp +arith at *; omega)
theorem om81 {a:Nat}:a<5->0<a->(↑a:Int)=1∨(↑a:Int)=2∨(↑a:Int)=3∨(↑a:Int)=4:=by (intros; grind)
theorem om82 {a b:Nat}:(a * (b % 5) % 5 + (5 * (a * (b / 5 % 5) % 5) + 25 * (a * (b / 25) % 5))) % 5=a * (b % 5) % 5:=by omega
theorem om83 {a b c:Nat}:(a % 5 + (5 * (b % 5) + 25 * (c % 5))) / 5 % 5=b % 5:=by (intros; grind)
theorem om84 {a b c:Nat}:(a % 5 + (5 * (b % 5) + 25 * (c % 5))) / 25=c % 5:=by (intros; grind)
theorem om85 {a:Int}:a<124->a.toNat<124:=by (intros; lia)
theorem om86 {a:Int}:0≤a->a=(↑a.toNat:Int):=by intro h0; exact Int.eq_natCast_toNat.mpr h0
theorem om87 {a:Int}:a<24->a.toNat<24:=by (intros; lia)
theorem om88 {a:Int}:a<5->a.toNat<5:=by (intros; lia)
theorem om89 {a:Nat}:(1 + (↑a:Int)) / 25=(↑((a + 1) / 25):Int):=by (intros; simp +arith at *; done)
theorem om90 {a:Nat}:(1 + (↑a:Int)) / 5 % 5=(↑((a + 1) / 5 % 5):Int):=by (intros; simp +arith at *; done)
theorem om91 {a:Nat}:(1 + (↑a:Int)) % 5=(↑((a + 1) % 5):Int):=by (intros; simp +arith at *; done)
theorem om92 {a b:Nat}:a<24->b<5->24 * b + a<120:=by (intros; lia)
theorem om93 {a b:Nat}:a<24->(24 * b + a) / 24=b:=by (intros; grind)
theorem om94 {a b:Nat}:a<24->(24 * b + a) % 24=a:=by (intros; simp +arith at *; omega)
theorem om95 {a b:Nat}:((↑a:Int) + (1 + (↑b:Int)) / 5) % 5=(↑((a + (b + 1) / 5) % 5):Int):=by (intros; simp +arith at *; done)
theorem om96 {a b:Nat}:((↑a:Int) + (1 + (↑b:Int)) % 5) % 5=(↑((a + (b + 1) % 5) % 5):Int):=by (intros; simp +arith at *; done)
theorem om97 {a b:Nat}:¬(↑63:Int)<(↑a:Int)->b=a->b≤63:=by (intros; subst_vars; omega)
theorem om98 {a:Nat}:a<1000->¬(↑a:Int) ≥ 2 ^ 63:=by (intros; lia)
theorem om99 {a b:Nat}:a<1000->b<1000->a + (b + 0) + (0 + 1 + 1) * 0≤16777216:=by (intros; grind)
theorem om100 {a b:Nat}:a + 215<b->a + 210<b:=by (intros; lia)
theorem om101 {a b:Nat}:a + 215<b->a + 210 + 5<b:=by (intros; subst_vars; omega)
theorem om102 {a b c:Nat}:a≤b->c<a->b=c->False:=by (intros; lia)
theorem om103 {a b:Nat} {c:Prop}:a≤b->b<a->c:=by (intros; lia)
theorem om104 {a b c d e:Nat}:a=b + (c - 3)->d=b + (e - 3)->3≤c->3≤e->¬c=e->a ≠ d:=by (intros; grind)
theorem om105 {a b c d:Nat}:a<b->c=b + (d - 3)->a ≠ c:=by (intros; lia)
theorem om106 {a b c d:Nat}:a=b + (c - 3)->d<b->d ≠ a:=by (intros; grind)
theorem om107 {a b c:Nat}:a<b->b≤c->a<c:=by (intros; exact Nat.lt_of_lt_of_le ‹_› ‹_›)
theorem om108 {a b c:Nat}:a<b->b≤c->c ≠ a:=by (intros; lia)
theorem om109 {a b c d e f:Nat}:a<b->c≤a->d=b + (e - 3)->f<c->f ≠ d:=by (intros; lia)
theorem om110 {a b:Nat}:a + 240<b->a<b:=by intro h0; exact Nat.lt_of_add_right_lt h0
theorem om111 {a b c d:Nat}:a<b->a=b + (c - 3)∨a=b + (d - 3)->False:=by (intros; lia)
theorem om112 {a b c d:Nat}:a<b->c≤a->d<c->d<b:=by (intros; lia)
theorem om113 {a b:Nat}:a≤b->b=0->a≤42:=by (intros; grind)
theorem om114 {a b c:Nat}:a<b->168<c->c≤a->168<b:=by (intros; lia)
theorem om115 {a b c d:Nat}: 3≤a∧3≤b∧3≤c∧a ≠ b∧a ≠ c∧b ≠ c->d + (b - 3)=d + (a - 3)∨d + (b - 3)=d + (c - 3)->False:=by (intros; lia)
theorem om116 {a b c:Nat}:a + (b - 3)<c->a≤c:=by (intros; grind)
theorem om117 {a:Nat}:a<1000->a≤2 ^ 24:=by (intros; lia)
theorem om118 {a b c d e:Nat}:a≤2000 * b->c≤d + e->d<1000∧e<1000->a + (c + 0)≤2000 * (b + 1):=by (intros; lia)
theorem om119 {a b:Nat}:a<1000->b≤2000 * a->b + a * 0≤16777216:=by (intros; grind)
theorem om120 {a b c:Nat}:a<b->175<c->c≤a->175<b:=by (intros; lia)
theorem om121 {a b c d e f:Nat}:a<b->c + d≤e + f->f + e≤a->c + d<b:=by (intros; lia)
theorem om122 {a b c:Nat}:a + b<c->¬a ≥ c:=by (intros; lia)
theorem om123 {a b c:Nat}:a + b<c->¬a + b ≥ c:=by intro h0; exact Nat.not_le_of_lt h0
theorem om124 {a b c d:Nat}:a + 5<b->c≤a->d≤5->c + d<b:=by (intros; lia)
theorem om125 {a b c:Nat}:a + b≤c->¬a + b > c:=by intro h0; exact Nat.not_lt.mpr h0
theorem om126 {a b c:Nat}:a + b≤c->a≤c:=by intro h0; exact Nat.le_of_add_right_le h0
theorem om127 {a b c:Nat}:a + b≤c->a + b≤c + 1:=by intro h0; exact Nat.le_add_right_of_le h0
theorem om128 {a b:Nat}:a<b->a + 1<b + 1:=by intro h0; exact Nat.add_lt_add_right h0 1
theorem om129 {a b:Nat}:a + 1<b + 1->a<b:=by (intros; simp +arith at *; omega)
theorem om130 {a b:Nat}:a<b->0<b:=by intro h0; exact Nat.zero_lt_of_lt h0
theorem om131 {a b c:Nat}:a<b->a<b + c + 1:=by (intros; lia)
theorem om132 {a b:Nat}:a<b + a + 1:=by (intros; simp +arith at *; done)
theorem om133 {a b:Nat}:¬a + b<a:=by (intros; simp)
theorem om134 {a:Nat}:a<1->a=0:=by (intros; simp +arith at *; omega)
theorem om135 {a b:Nat}:a<1->b<1->a=b:=by (intros; lia)
theorem om136 {a:Nat}:a ≠ a + 1:=by exact Nat.ne_add_one a
theorem om137 {a b:Nat}:a<b->a ≠ b + 1:=by (intros; lia)
theorem om138 {a b:Nat}:a<b->a ≠ b:=by intro h0; exact om16 h0
theorem om139 {a:Nat}:¬(↑a:Int)<0:=by exact Int.not_ofNat_neg a
theorem om140 {a:Nat}:a<1000->a + 1≤2 ^ 24:=by (intro h; exact Nat.lt_of_lt_of_le h (by simp))
theorem om141 {a:Nat}:a≤63->a≤2 ^ 24:=by (intros; lia)
theorem om142 {a b:Nat}:a=0->b≤a->b=0:=by (intros; grind)
theorem om143 {a:Nat}:a=0->a≤13:=by (intros; subst_vars; simp +arith)
theorem om144 {a:Nat}:a<a + 1:=by exact Nat.lt_add_one a
theorem om145 {a:Nat}:a + 3<a + 4:=by exact om144
theorem om146 {a:Nat}:a + 0<a + 4:=by (intros; simp +arith at *; done)
theorem om147 {a:Nat}:a + 1<a + 4:=by (intros; simp +arith at *; done)
theorem om148 {a:Nat}:a + 2<a + 4:=by (intros; simp +arith at *; done)
theorem om149 {a b:Nat}:a<b->a<b + 0:=by (intros; subst_vars; omega)
theorem om150 {a b:Nat}:a<b->a<b + 2:=by intro h0; exact om21 h0
theorem om151 {a:Nat}:a<a + 2:=by (intros; simp +arith at *; done)
theorem om152 {a:Nat}:a + 1<a + 2:=by exact om144
theorem om153 {a:Nat}:0≤(↑a:Int):=by exact Int.natCast_nonneg a
theorem om154 {a b:Nat}:a<b->(↑a:Int)<(↑b:Int):=by intro h0; exact Int.ofNat_lt.mpr h0
theorem om155 {a:Nat} {b:Int} {c:Nat}: a<1000->b=(↑c:Int)∨b<0∧b + (↑a:Int)=(↑c:Int)->¬b < -2 ^ 63:=by (intros; lia)
theorem om156 {a:Nat} {b:Int} {c:Nat}: a<1000->b=(↑c:Int)∨b<0∧b + (↑a:Int)=(↑c:Int)->c<a->¬b ≥ 2 ^ 63:=by (intros; grind)
theorem om157 {a:Nat}:0<a->-1 + (↑a:Int)=(↑(a - 1):Int):=by (intros; lia)
theorem om158 {a:Int}:0≤a∧a<5->-100000<a∧a<100000:=by omega
theorem om159 {a:Int}:0<a->a<5->a=1∨a=2∨a=3∨a=4:=by (intros; grind)
theorem om160 {a:Nat}:a<100->a<1000:=by (intro h; exact Nat.lt_of_lt_of_le h (by simp))
theorem om161 {a:Nat}:a + 0=31->a=31:=by (intros; simp +arith at *; omega)
theorem om162 {a b c:Nat}:a=31->b + (c + 1)=31->b<a:=by (intros; lia)
theorem om163 {a:Nat}:a=31->a<1000:=by (intros; subst_vars; simp +arith)
theorem om164 {a:Nat}:(↑(a + 1):Int) - 1=(↑a:Int):=by exact Int.sub_eq_iff_eq_add.mpr rfl
theorem om165 {a b c:Nat}:a + (b + 1)=31->c≤a->c<1000:=by (intros; lia)
theorem om166 {a b:Nat}:a + (b + 1)=31->a + 1 + b=31:=by (intros; simp +arith at *; omega)
theorem om167 {a:Int}:20 + a - 20=a:=by exact Int.sub_eq_iff_eq_add'.mpr rfl
theorem om168 {a:Int}:0≤a->¬a=0->0<a:=by intro h0 h1; exact Std.lt_of_le_of_ne h0 fun a_1=>h1 (id (Eq.symm a_1))
theorem om169 {a:Nat}:a=0->a + 1=1:=by intro h0; exact Nat.add_eq_right.mpr h0
theorem om170 {a b c:Nat}:a + 430<b->c≤a + 5 * 1->c + 410<b:=by (intros; lia)
theorem om171 {a b c:Nat}:a + 600<b->c≤a + 16 * 1->c + 560<b:=by (intros; lia)
theorem om172 {a:Nat}:a=0∨a=1∨a=2∨a=3∨a=4∨a=6∨a=5∨a=7->a<8:=by (intros; lia)
theorem om173 {a b c:Nat}:a + 335<b->c≤a->c + 215<b:=by (intros; lia)
theorem om174 {a b c:Nat}:a + 335<b->c≤a->c + 335<b:=by (intros; lia)
theorem om175 {a b c:Nat}:a + 330<b->c≤a->c + 330<b:=by (intros; lia)
theorem om176 {a b:Nat}:a + 410<b->a + 70<b:=by (intros; lia)
theorem om177 {a b:Nat}:a + 560<b->a + 300<b:=by (intros; lia)
theorem om178 {a b:Nat}:a + 410<b->a + 70 + 335<b:=by (intros; lia)
theorem om179 {a b:Nat}:a + 560<b->a + 210 + 330<b:=by (intros; lia)
theorem om180 {a b c:Nat}:a + 20<b->c≤16->a + c<b:=by (intros; lia)
theorem om181 {a b:Nat}:a + 430<b->a + 210<b:=by (intros; lia)
theorem om182 {a b:Nat}:a + 600<b->a + 20<b:=by (intros; lia)
theorem om183 {a:Nat}: a=0∨a=1∨a=2∨a=3∨a=9∨a=8∨a=5∨a=4∨a=6∨a=7∨a=10->a<11:=by omega
theorem om184 {a:Nat}: a=0∨a=1∨a=2∨a=3∨a=4∨a=8∨a=6∨a=9∨a=7∨a=10∨a=11->a<12:=by omega
theorem om185 {a:Nat}:¬0<a->a=0:=by intro h0; exact Nat.eq_zero_of_not_pos h0
theorem om186 {a:Nat}:0<a->¬a=0:=by intro h0; exact Nat.ne_zero_of_lt h0
theorem om187 {a:Nat}:a % 2=1->¬a=0:=by (intros; grind)
theorem om188 {a b:Nat}:a<b / 2->2 * a + 1<b:=by (intros; grind)
theorem om189 {a b:Nat}:¬a<b / 2->¬2 * a + 1<b:=by (intros; lia)
theorem om190 {a b:Nat}:a<b / 2 - 1->2 * a + 2<b:=by (intros; lia)
theorem om191 {a b:Nat}:¬a % 2=1->¬b<a / 2 - 1->¬2 * b + 2<a:=by (intros; simp +arith at *; omega)
theorem om192 {a b:Nat}:¬a=b->¬a<b->b + (0 + 1)≤a:=by (intros; lia)
theorem om193 {a b:Nat}:a≤b->¬b<a:=by intro h0; exact Nat.not_lt.mpr h0
theorem om194 {a:Int}:0≤a->¬a<0:=by intro h0; exact Int.not_lt_of_ge h0
theorem om195 {a:Int}:a<2 ^ 63->¬a ≥ 2 ^ 63:=by intro h0; exact Int.not_le.mpr h0
theorem om196 {a b:Nat}:a + 320<b->a + 70<b:=by (intros; lia)
theorem om197 {a b:Nat}:a + 320<b->a + 70 + 245<b:=by (intros; lia)
theorem om198 {a b:Nat}:a + 3<1000->b=a->b + 1≤2 ^ 24:=by (intros; lia)
theorem om199 {a:Nat}:a<7->a=8->False:=by (intros; subst_vars; omega)
theorem om200 {a b c:Nat}:a<b + 1->c<b + 1->¬a<b->¬c<b->a=c:=by (intros; lia)
theorem om201 {a b:Nat}:a + 3<900->b=a->b + 3≤2 ^ 24:=by (intros; lia)
theorem om202 {a:Nat}:a<900->a + 1≤2 ^ 24:=by (intro h; exact Nat.lt_of_lt_of_le h (by simp))
theorem om203 {a:Nat}:a + 3<900->a + 1<1000:=by (intros; lia)
theorem om204 {a b:Nat}:a + 3≤b->a + 1 + 0≤b:=by (intros; lia)
theorem om205 {a b:Nat}:a + 3≤b->a + 1 + 1≤b:=by intro h0; exact om4 h0
theorem om206 {a b:Nat}:a + 3≤b->a + 1≤b:=by (intros; lia)
theorem om207 {a b:Nat}:a=31->b≤31->a≤b->b=31:=by (intros; lia)
theorem om208 {a b:Nat}:a=31->b<a->b<31:=by intro h0 h1; exact om9 h0 h1
theorem om209 {a b c:Nat}:a + b≤c->c<31->b + 3<900:=by (intros; grind)
theorem om210 {a b c:Nat}:a + b≤c->c<31->a<900:=by (intros; grind)
theorem om211 {a b c:Nat}:a + b≤c->a + 1 + 0≤c + 1:=by (intros; lia)
theorem om212 {a b c:Nat}:a + b≤c->c<31->b + 3<1000:=by (intros; grind)
theorem om213 {a b c:Nat}:a + b≤c->a + (b + 1)≤c + 1:=by intro h0; exact Nat.le_add_of_sub_le h0
theorem om214 {a:Nat}:¬a + 31<31:=by exact of_decide_eq_false rfl
theorem om215 {a b:Nat}:a + 2≤b->a≤b:=by intro h0; exact om126 h0
theorem om216 {a:Int}:0≤a->a<5->a=0∨a=1∨a=2∨a=3∨a=4:=by (intros; grind)
theorem om217 {a b:Nat}:a + 3<900->b=a->b + 1<1000:=by (intros; lia)
theorem om218 {a:Nat}:¬a<7->a<8->a=7:=by intro h0 h1; exact om10 h1 h0
theorem om219 {a b:Nat}:a<b->b=a->False:=by (intros; lia)
theorem om220 {a b:Nat}:a≤b->b=0->a≤13:=by (intros; grind)
theorem om221 {a b:Nat}:a<900->b<10000->b + (a + 1) * 1≤16777216:=by (intros; grind)
theorem om222 {a b:Nat}:a + 3<900->b=a->b + 1 + 0≤2 ^ 24:=by (intros; lia)
theorem om223 {a b:Nat}:a + 3<900->b=a->b + 1≤2 ^ 24:=by (intros; lia)
theorem om224 {a b:Nat}:a<900->b<10000->b + (a + 1) * 1 + 2≤2 ^ 24:=by (intros; lia)
theorem om225 {a:Nat}:a≤a + 1:=by exact Nat.le_add_right a 1
theorem om226 {a:Nat}:a≤0->a≤13:=by (intros; lia)
theorem om227 {a b:Nat}:a<900->b<10000->b + a * 1≤16777216:=by (intros; grind)
theorem om228 {a b:Nat}:a<900->b<10000->b + a * 1 + 2≤2 ^ 24:=by (intros; lia)
theorem om229 {a b c:Nat}:a + (b + 1) + c=a + b + (c + 1):=by exact om37
theorem om230 {a b c:Nat}:a + (b + (0 + 1)) + c=a + b + (c + 1):=by exact om229
theorem om231 {a b:Nat}:a + 1 + b≤a + (b + 1):=by (intros; simp +arith at *; done)
theorem om232 {a b:Nat}:a + b≤a + (b + 1):=by exact om225
theorem om233 {a b:Nat}:a + 335<b->a + 320<b:=by (intros; lia)
theorem om234 {a b:Nat}:a + 330<b->a + 300<b:=by (intros; lia)
theorem om235 {a b:Nat}:a + 335<b->a + 210<b:=by (intros; lia)
theorem om236 {a:Nat}:a≤0->a=0:=by intro h0; exact Nat.eq_zero_of_le_zero h0
theorem om237 {a b:Nat}:a≤b->b=0->a + 1=1:=by (intros; grind)
theorem om238 {a b c:Nat}:a + 335<b->c≤a + 5 * 1->c + 320<b:=by (intros; lia)
theorem om239 {a b c:Nat}:a + 330<b->c≤a + 16 * 1->c + 300<b:=by (intros; lia)
theorem om240 {a:Nat}:a≤0 + 31->a<900:=by (intros; lia)
theorem om241 {a:Nat}:a + 0=0 + 0 + 31->a<10000:=by (intros; subst_vars; simp +arith)
theorem om242 {a b:Nat}:a + (b + 1)=0 + 0 + 31->b + 3<900:=by (intros; lia)
theorem om243 {a b:Nat}:a + (b + 1)=0 + 0 + 31->a + (b + 1 + 0)<10000:=by (intros; lia)
theorem om244 {a b c:Nat}:a<b->c≤a->c≤b + 15:=by (intros; lia)
theorem om245 {a b c d e:Nat}:a=b + (c - d)->a=e->e<b->False:=by (intros; grind)
theorem om246 {a b c:Nat}:a + (b + 1) + 1≤c->a + 1≤c:=by (intros; lia)
theorem om247 {a b c:Nat}:a + (b + 1) + 1≤c->a + (0 + 1) + b + 1≤c:=by (intros; simp +arith at *; omega)
theorem om248 {a b:Nat}:a + 2≤b->0 + 1 + a + 1≤b:=by (intros; simp +arith at *; omega)
theorem om249 {a b c:Nat}:a≤b->b<c->a≤c:=by (intros; lia)
theorem om250 {a:Nat}:2≤a + 2:=by exact Nat.le_add_left 2 a
theorem om251 {a:Nat}:8≤8 + a:=by exact Nat.le_add_right 8 a
theorem om252 {a b:Nat}:a + (8 + b - 8)=a + b:=by (intros; simp)
theorem om253 {a b c:Nat}:a<b->a=c + 0->c≤b:=by (intros; lia)
theorem om254 {a b:Nat}:a≤b->a≤b + 14:=by intro h0; exact Nat.le_add_right_of_le h0
theorem om255 {a b:Nat}:a≤b->a≤b + 1:=by intro h0; exact Nat.le_add_right_of_le h0
theorem om256 {a b c d e f g:Nat}:a≤b->c + 5 * (b + 1)≤d->e≤f + 5 * (a + 1)->f + d<g->e + c<g:=by (intros; lia)
theorem om257 {a b c d:Nat}:a≤b->b<a->c≤d:=by (intros; lia)
theorem om258 {a b c:Nat}:a≤3->b≤1->c≤1->a + b + c + 0≤5:=by (intros; grind)
theorem om259 {a b c d:Nat}:a≤b + 5 * c->d≤5->a + d≤b + 5 * (c + 1):=by (intros; lia)
theorem om260 {a b c:Nat}:a + 1≤b->c + (b - a)=c + 1 + (b - (a + 1)):=by (intros; grind)
theorem om261 {a b:Nat}:a=b->a<b + 1:=by (intros; subst_vars; simp +arith)
theorem om262 {a b c d e:Nat}:a=b->b<c->a=c->d=e:=by (intros; lia)
theorem om263 {a b c d e:Nat}:a=b->a<c->b=c->d=e:=by (intros; lia)
theorem om264 {a b:Nat}:a≤42->b + 5 * a≤b + 210:=by (intros; grind)
theorem om265 {a b c:Nat}:a + 210<b->c≤a + 210->c<b:=by (intros; exact Nat.lt_of_le_of_lt ‹_› ‹_›)
theorem om266 {a:Nat}:a<64->a≤2 ^ 24:=by (intros; lia)
theorem om267 {a:Nat}:a<64->a≤16777216:=by (intros; lia)
theorem om268 {a:Nat}:a≤a + 1 + 1 + 1 + 1:=by (intros; simp +arith at *; done)
theorem om269 {a b:Nat}:a + 1≤b->a + 1≤b + 1:=by intro h0; exact om127 h0
theorem om270 {a:Nat}:-1 + (↑(a + 1):Int)=(↑a:Int):=by (intros; simp +arith at *; done)
theorem om271 {a:Nat}:(↑a:Int)<(↑a:Int) + 1:=by exact Int.lt_succ ↑a
theorem om272 {a b:Nat}:a + 1≤b->a + 1≤b:=by (intros; subst_vars; omega)
theorem om273 {a b:Nat}:a + 1≤b->a≤b + 1:=by (intros; lia)
theorem om274 {a:Nat}:(Max.max 0 (↑a:Int)).toNat=a:=by exact Nat.add_zero a
theorem om275 {a b c:Nat}:a + b≤c->b≤c + 1:=by (intros; lia)
theorem om276 {a:Nat}:a=0 + 1->a≤16777216:=by (intros; subst_vars; simp +arith)
theorem om277 {a b:Nat}:a + 210<b->a<b:=by intro h0; exact Nat.lt_of_add_right_lt h0
theorem om278 {a b:Nat}:a + 335<b->a + 70<b:=by (intros; lia)
theorem om279 {a:Nat}:a<30->a + 1≤2 ^ 24:=by (intro h; exact Nat.lt_of_lt_of_le h (by simp))
section
theorem all_nil:∀ p∈([]:List Prop),p:=fun _ h=>nomatch h
theorem all_cons {p:Prop} {l:List Prop} (h:p) (t:∀ q∈l,q):∀ q∈p::l,q:=fun _ m=>(List.mem_cons.mp m).elim (fun e=>e ▸ h) (t _)
universe u v
noncomputable def elO {α:Type u} {β:Type v} (a:Option α) (f:α->β) (d:β):β:=Option.rec (motive:=fun _=>β) d f a
noncomputable def bO {β:Type v} (b:Bool) (x y:β):β:=Bool.rec (motive:=fun _=>β) y x b
noncomputable def nO {β:Type v} (n:Nat) (x:β) (f:Nat->β):β:=Nat.rec (motive:=fun _=>β) x (fun n _=>f n) n
theorem nso {α:Type u} {x:α} {P:Prop} (h:none=some x):P:=nomatch h
theorem pO {α:Type u} {β:Type v} (P:β->Prop) {a:Option α} {f:α->β} {d:β} (hd:P d->False) (h:P (elO a f d)):∃ x,a=some x∧P (f x):=by
 cases a with
 | none=>exact (hd h).elim
 | some x=>exact ⟨x,rfl,h⟩
theorem pT {β:Type v} (P:β->Prop) {b:Bool} {x y:β} (hd:P y->False) (h:P (bO b x y)):b=true∧P x:=by
 cases b with
 | false=>exact (hd h).elim
 | true=>exact ⟨rfl,h⟩
theorem pF {β:Type v} (P:β->Prop) {b:Bool} {x y:β} (hd:P x->False) (h:P (bO b x y)):b=false∧P y:=by
 cases b with
 | true=>exact (hd h).elim
 | false=>exact ⟨rfl,h⟩
theorem pN {β:Type v} (P:β->Prop) {n:Nat} {x:β} {f:Nat->β} (h:P (nO n x f)):(n=0∧P x)∨∃ k,n=k + 1∧P (f k):=by
 cases n with
 | zero=>exact .inl ⟨rfl,h⟩
 | succ k=>exact .inr ⟨k,rfl,h⟩
theorem bind_some {α:Type u} {β:Type v} {a:Option α} {f:α->Option β} {y:β} (h:a.bind f=some y):∃ x,a=some x∧f x=some y:=by
 cases a with
 | some x=>exact ⟨x,rfl,h⟩
 | none=>exact nso h
theorem map_some' {α:Type u} {β:Type v} {a:Option α} {f:α->β} {y:β} (h:a.map f=some y):∃ x,a=some x∧f x=y:=by
 cases a with
 | some x=>exact ⟨x,rfl,Option.some.inj h⟩
 | none=>exact nso h
theorem cond_some {α:Type u} {b:Bool} {x:Option α} {y:α} (h:cond b x none=some y):b=true∧x=some y:=by
 cases b with
 | true=>exact ⟨rfl,h⟩
 | false=>exact nso h
theorem cond_none {α:Type u} {b:Bool} {x:Option α} {y:α} (h:cond b none x=some y):b=false∧x=some y:=by
 cases b with
 | false=>exact ⟨rfl,h⟩
 | true=>exact nso h
theorem cond_if {α:Type u} {b:Bool} {x x':Option α} {y:α} (h:cond b x x'=some y):x=some y∨x'=some y:=by
 cases b with
 | true=>exact .inl h
 | false=>exact .inr h
theorem cond_or {α:Type u} {b:Bool} {x x':Option α} {y:α} (h:cond b x x'=some y):(b=true∧x=some y)∨x'=some y:=by
 cases b with
 | true=>exact .inl ⟨rfl,h⟩
 | false=>exact .inr h
noncomputable def orO {α:Type u} (a b:Option α):Option α:=elO a some b
theorem orO_some {α:Type u} {a b:Option α} {y:α} (h:orO a b=some y):a=some y∨b=some y:=by
 cases a with
 | some x=>exact .inl h
 | none=>exact .inr h
theorem elO_ind {α:Type u} {β:Type v} {P:β->Prop} {a:Option α} {f:α->β} {d:β} (h:∀ x,a=some x->P (f x)) (h':P d):P (elO a f d):=by
 cases a with
 | some x=>exact h x rfl
 | none=>exact h'
noncomputable def funcD (d:Data):Option FuncData:=match d with
 | .func f=>some f
 | _=>none
theorem funcD_some {d:Data} {f:FuncData} (h:funcD d=some f):d = .func f:=by
 cases d <;> first | exact nso h | exact congrArg _ (Option.some.inj h)
noncomputable def fieldsD (d:Data):Option (Array Value):=match d with
 | .fields f=>some f
 | _=>none
theorem fieldsD_some {d:Data} {f:Array Value} (h:fieldsD d=some f):d = .fields f:=by
 cases d <;> first | exact nso h | exact congrArg _ (Option.some.inj h)
noncomputable def stmtsB (b:FuncBody):Option (List Stmt):=match b with
 | .stmts f=>some f
 | _=>none
theorem stmtsB_some {d:FuncBody} {f:List Stmt} (h:stmtsB d=some f):d = .stmts f:=by
 cases d <;> first | exact nso h | exact congrArg _ (Option.some.inj h)
noncomputable def adr? (x:Value):Option Addr:=match x with
 | .ref a=>some a
 | _=>none
theorem adr?_some {x:Value} {a:Addr} (h:adr? x=some a):x = .ref a:=by
 cases x <;> first | exact nso h | exact congrArg _ (Option.some.inj h)
noncomputable def str? (x:Value):Option (Str×Tok):=match x with
 | .str a t=>some (a,t)
 | _=>none
theorem str?_some {x:Value} {a:Str×Tok} (h:str? x=some a):x = .str a.1 a.2:=by
 cases x <;> first | exact nso h | (obtain rfl:=Option.some.inj h; rfl)
noncomputable def callR (c:Code):Option (Addr×Args):=match c with
 | .call f args=>(adr? f).map fun a=>(a,args)
 | _=>none
theorem callR_some {c:Code} {p:Addr×Args} (h:callR c=some p):c = .call (.ref p.1) p.2:=by
 cases c with
 | call f args =>
  obtain ⟨a,ha,rfl⟩:=map_some' (a:=adr? f) h
  rw [adr?_some ha]
 | _=>exact nso h
inductive Kn
 | nil
 | cons (c:Code) (k:Result->Sem Fin) (r:Kn)
inductive Rs
 | bad (why:Nat)
 | done (r:Result) (T:BT) (m i:Nat) (gs:List Code) (ob:List (Nat×Nat)) (op:List Prop)
 | stop (c':Code) (c:Code) (k:Result->Sem Fin) (κ:Kn) (d:Nat) (T:BT) (m i:Nat) (gs:List Code) (ob:List (Nat×Nat)) (op:List Prop)
 | again (c':Code) (κ:Kn) (d:Nat) (T:BT) (m i:Nat) (gs:List Code) (ob:List (Nat×Nat)) (op:List Prop)
noncomputable abbrev denF:Code->Sem Fin:=PySem.W.Fast.tw11892475500146522536 PySem.W.Fast.tw14364793385576792824
noncomputable abbrev quietF:Code->Bool:=PySem.W.ZFast.zw17772548960776305114
noncomputable abbrev callerF:Code->Bool:=PySem.W.ZFast.zw2167841511373827401
noncomputable abbrev bindF:FuncData->Args->Sem (List (Str×Value)):=PySem.W.Fast.tw9782568553167038054
noncomputable abbrev envF:Scope->Addr->List (Str×Addr)->List (Str×Value)->Str->Option Addr->Value->Option Env->Addr->Sem Env:=@PySem.W.Fast.tw11113344188204177931
theorem denF_eq:denote table=denF:=by
 rw [PySem.table_eq_tree,PySem.W.Fast.te14364793385576792824,PySem.W.Fast.te11892475500146522536]
theorem quietF_eq:@Code.quiet=quietF:=PySem.W.ZFast.ze17772548960776305114
theorem callerF_eq:@Code.isCaller=callerF:=PySem.W.ZFast.ze2167841511373827401
theorem bindF_eq:@bindArgs=bindF:=PySem.W.Fast.te9782568553167038054
theorem envF_eq:@newFunctionEnv=envF:=PySem.W.Fast.te11113344188204177931
noncomputable def codeQ (kt:KT) (cc:Addr):Option Str:=(kt.get cc).bind fun oc=>(fieldsD oc.data).bind fun vs=>vs[1]?.bind fun v=>(str? v).map fun q=>q.1
noncomputable def defAt (kt:KT) (a:Addr):Option (FuncData×List Stmt):=(kt.get a).bind fun x=>(funcD x.data).bind fun fd=>(stmtsB fd.body).bind fun body =>
 cond fd.scope.isCoroutine none (cond fd.scope.isGenerator none ((adr? fd.code).bind fun cc=>(codeQ kt cc).bind fun q=>cond (Fast.sEq q fd.qualname) (some (fd,body)) none))
noncomputable def callF (a:Addr) (args:Args) (p:FuncData×List Stmt):Sem Fin :=
 R.bindR (bindF p.1 args) fun bs=>R.bindR (envF p.1.scope p.1.globals p.1.closure bs (p.1.qualname++⟨⟨[46,60,108,111,99,97,108,115,62,46]⟩⟩) (some a) p.1.code none p.1.builtins) fun env=>.pure (.again (.func p.2 env))
structure En where
 sp:Nat->Code->Option (Sem Fin×Prop)
 st:Setting
 kt:KT
 ad:Nat->Nat
 t0:Tok
 g0:Nat
noncomputable def run (E:En):Nat->Bool->Code->Sem Fin->Kn->Nat->BT->Nat->Nat->List Code->Nat->List (Nat×Nat)->List Prop->Rs
 | 0,_,_,_,_,_,_,_,_,_,_,_,_=>.bad 0
 | n + 1,b,c,t,κ,d,T,m,i,gs,o,ob,op=>match t with
  | .pure f=>match f with
   | .done f=>bO b (.bad 17) (match κ with
    | .nil=>.done (.ok f) T m i gs ob op
    | .cons c₁ k κ=>run E n false c₁ (k (.ok f)) κ (d - 1) T m i gs o ob op)
   | .again c'=>bO (quietF c') (bO (callerF c') (.bad 22) (nO (o % 256) (run E n false c' (denF c') κ d T m i gs (o / 256) ob op) fun q=>nO q (.again c' κ d T m i gs ob op) fun q =>
    elO (E.sp q c') (fun p=>run E n false c' p.1 κ d T m i gs (o / 256) ob (p.2::op)) (.bad 1))) (.bad 2)
  | .raise e=>match κ with
   | .nil=>.done (.error e) T m i gs ob op
   | .cons c₁ k κ=>run E n false c₁ (k (.error e)) κ (d - 1) T m i gs o ob op
  | .rule _ k=>run E n b c (k ()) κ d T m i gs o ob op
  | .at _ k=>run E n b c (k ()) κ d T m i gs o ob op
  | .point _ k=>run E n b c (k ()) κ d T m i gs o ob op
  | .ask k=>run E n b c (k E.st) κ d T m i gs o ob op
  | .load a _ k=>nO (o % 256) (elO (E.kt.get a) (fun x=>run E n b c (k x) κ d T m i gs (o / 256) ob op) (.bad 3)) fun j =>
   elO (T.get j) (fun x=>run E n b c (k x) κ d T m i gs (o / 256) ((a,E.ad j)::ob) op) (.bad 4)
  | .update a _ f k=>nO (o % 256) (.bad 5) fun j=>elO (T.get j) (fun x=>bO (f x).isFreed (.bad 6) (run E n b c (k ()) κ d (T.set j f) m i gs (o / 256) ((a,E.ad j)::ob) op)) (.bad 7)
  | .alloc x k=>bO x.isFreed (.bad 8) (elO ((T.ins m x).get m) (fun _=>run E n b c (k (E.ad m)) κ d (T.ins m x) (m + 1) i gs o ob op) (.bad 9))
  | .fresh k=>run E n b c (k (E.t0 + i)) κ d T m (i + 1) gs o ob op
  | .handled own k=>bO own (.bad 10) (run E n b c (k none) κ d T m i gs o ob op)
  | .newGen c' k=>run E n b c (k (E.g0 + gs.length)) κ d T m i (gs++[c']) o ob op
  | .call c' hd _ _ k=>elO hd (fun _=>.bad 11) (bO (callerF c') (.bad 12) (bO b (.bad 18) (bO (Nat.ble d 40)
   (nO (o % 256) (run E n false c' (denF c') (.cons c k κ) (d + 1) T m i gs (o / 256) ob op) fun q=>nO q (.stop c' c k κ d T m i gs ob op) fun q=>nO q
    (elO (callR c') (fun f=>elO (defAt E.kt f.1) (fun p=>run E n true c' (callF f.1 f.2 p) (.cons c k κ) (d + 1) T m i gs (o / 256) ob op) (.bad 19)) (.bad 20)) fun q =>
    elO (E.sp q c') (fun p=>run E n false c' p.1 (.cons c k κ) (d + 1) T m i gs (o / 256) ob (p.2::op)) (.bad 15)) (.bad 13))))
  | _=>.bad 16
section
variable (prog:Program) (w:World) (A:Around) (R:Result->Shared->Prop)
noncomputable def arK:Kn->Around
 | .nil=>A
 | .cons c _ κ=>(arK κ).under c
noncomputable def RK:Kn->Result->Shared->Prop
 | .nil=>R
 | .cons c k κ=>postR prog w (arK A κ) c (postC prog w (arK A κ) (RK κ)) (postE (RK κ)) k
noncomputable def Fq (b:Bool) (κ:Kn):Fin->Shared->Prop:=match b with
 | false=>postC prog w (arK A κ) (RK prog w A R κ)
 | true=>fun fin s'=>∃ c',fin = .again c'∧s'.heap.NoLimit∧codeAny (model prog w) (arK A κ) c' (RK prog w A R κ) s'
noncomputable def Means (b:Bool) (c:Code) (t:Sem Fin) (κ:Kn) (s:Shared):Prop :=
 wpOwn (model prog w) (arK A κ) c t (Fq prog w A R b κ) (postE (RK prog w A R κ)) s
end
structure Rep (kt:KT) (ad:Nat->Nat) (h₀ h:Heap) (T:BT) (m:Nat):Prop where
 base:kt.Holds h 1 0
 next:∀ j:Nat,m≤j->@Eq Nat (ad j) (h.objs.size + (j - m))
 low:∀ j:Nat,j<m->@LT.lt Nat _ (ad j) h.objs.size
 inj:∀ i j:Nat,i<m->j<m->@Eq Nat (ad i) (ad j)->i=j
 own:∀ (j:Nat) x,T.get j=some x->j<m∧h.get? (ad j)=some x
 off:∀ j:Nat,j<m->∀ (a:Nat) x,kt.get a=some x->@Ne Nat (ad j) a
 keep:∀ (a:Nat) x,h₀.get? a=some x->(∀ j:Nat,j<m->@Ne Nat (ad j) a)->h.get? a=some x
 size:h₀.objs.size≤h.objs.size
noncomputable def start (E:En) (n:Nat) (a:Addr) (args:List Value) (T:BT) (m:Nat) (o:Nat):Rs:=match defAt E.kt a with
 | some p=>run E n true (.call (.ref a) ⟨args,[]⟩) (callF a ⟨args,[]⟩ p) .nil 0 T m 0 [] o [] []
 | none=>.bad 99
noncomputable def eqs (l:List (Nat×Nat)):Prop:=l.map Prod.fst=l.map Prod.snd
noncomputable def bt (l:List Obj):BT:=(l.foldl (fun p x=>(p.1 + 1,p.2.ins p.1 x)) (0,BT.nil)).2
noncomputable abbrev sTuple:=PySem.W.SL.s2766695959194262286x5
noncomputable abbrev sDict:=PySem.W.SL.s14018661285674007319x4
noncomputable abbrev sList:=PySem.W.SL.s9222952809800978799x4
noncomputable abbrev inst (C d:Addr) (vs:List Value):Obj:=⟨.ref C,some d,.seq ⟨vs⟩ 0,#[]⟩
noncomputable abbrev tup (vs:List Value):Obj:=⟨.type sTuple,none,.seq ⟨vs⟩ 0,#[]⟩
end
section
inductive EK where
 | name (n:Str) (p:Pos)
 | attr (e:Expr) (a:Str) (p:Pos)
 | call (f:Expr) (as:List Expr) (ks:List Keyword) (p:Pos)
 | gen (e:Expr) (gs:List Comprehension) (s:Scope) (p:Pos)
 | tup (es:List Expr) (k:Nat) (p:Pos)
 | bin (a:Expr) (o:Operator) (b:Expr) (p:Pos)
 | cmp (a:Expr) (os:List CmpOp) (bs:List Expr) (p:Pos)
 | other
noncomputable def ek (e:Expr):EK:=match e with
 | .Name n p=>.name n p
 | .Attribute o a p=>.attr o a p
 | .Call f as ks p=>.call f as ks p
 | .GeneratorExp a b c d=>.gen a b c d
 | .Tuple a b c=>.tup a b c
 | .BinOp a o b p=>.bin a o b p
 | .Compare a b c d=>.cmp a b c d
 | _=>.other
noncomputable def EK.back (e:Expr) (k:EK):Expr:=match k with
 | .name n p=>.Name n p
 | .attr o a p=>.Attribute o a p
 | .call f as ks p=>.Call f as ks p
 | .gen a b c d=>.GeneratorExp a b c d
 | .tup a b c=>.Tuple a b c
 | .bin a o b p=>.BinOp a o b p
 | .cmp a b c d=>.Compare a b c d
 | .other=>e
theorem ek_back (e:Expr):e=(ek e).back e:=by
 cases e <;> rfl
noncomputable def EK.name? (k:EK):Option (Str×Pos):=match k with
 | .name n p=>some (n,p)
 | _=>none
noncomputable def nameE (e:Expr):Option (Str×Pos):=(ek e).name?
theorem nameE_k {k:EK} {t:Str×Pos} (h:k.name? = some t) (e:Expr):k.back e = .Name t.1 t.2:=by
 cases k <;> first | exact nso h | (obtain rfl:=Option.some.inj h; rfl)
theorem nameE_some {e:Expr} {t:Str×Pos} (h:nameE e=some t):e = .Name t.1 t.2:=(ek_back e).trans (nameE_k h e)
noncomputable def EK.attr? (k:EK):Option (Expr×Str×Pos):=match k with
 | .attr o a p=>some (o,a,p)
 | _=>none
noncomputable def attrE (e:Expr):Option (Expr×Str×Pos):=(ek e).attr?
theorem attrE_k {k:EK} {t:Expr×Str×Pos} (h:k.attr? = some t) (e:Expr):k.back e = .Attribute t.1 t.2.1 t.2.2:=by
 cases k <;> first | exact nso h | (obtain rfl:=Option.some.inj h; rfl)
theorem attrE_some {e:Expr} {t:Expr×Str×Pos} (h:attrE e=some t):e = .Attribute t.1 t.2.1 t.2.2:=(ek_back e).trans (attrE_k h e)
noncomputable def EK.call? (k:EK):Option (Expr×List Expr×Pos):=match k with
 | .call f as ks p=>cond ks.isEmpty (some (f,as,p)) none
 | _=>none
noncomputable def callE (e:Expr):Option (Expr×List Expr×Pos):=(ek e).call?
theorem callE_k {k:EK} {t:Expr×List Expr×Pos} (h:k.call? = some t) (e:Expr):k.back e = .Call t.1 t.2.1 [] t.2.2:=by
 cases k with
 | call f as ks p=>cases ks <;> first | (obtain rfl:=Option.some.inj h; rfl) | exact nso h
 | _=>exact nso h
theorem callE_some {e:Expr} {t:Expr×List Expr×Pos} (h:callE e=some t):e = .Call t.1 t.2.1 [] t.2.2:=(ek_back e).trans (callE_k h e)
noncomputable def EK.gen? (k:EK):Option (Expr×List Comprehension×Scope×Pos):=match k with
 | .gen a b c d=>some (a,b,c,d)
 | _=>none
noncomputable def genE (e:Expr):Option (Expr×List Comprehension×Scope×Pos):=(ek e).gen?
theorem genE_k {k:EK} {t:Expr×List Comprehension×Scope×Pos} (h:k.gen? = some t) (e:Expr):k.back e = .GeneratorExp t.1 t.2.1 t.2.2.1 t.2.2.2:=by
 cases k <;> first | exact nso h | (obtain rfl:=Option.some.inj h; rfl)
theorem genE_some {e:Expr} {t:Expr×List Comprehension×Scope×Pos} (h:genE e=some t):e = .GeneratorExp t.1 t.2.1 t.2.2.1 t.2.2.2:=(ek_back e).trans (genE_k h e)
noncomputable def EK.tup? (k:EK):Option (List Expr×Nat×Pos):=match k with
 | .tup a b c=>some (a,b,c)
 | _=>none
noncomputable def tupE (e:Expr):Option (List Expr×Nat×Pos):=(ek e).tup?
theorem tupE_k {k:EK} {t:List Expr×Nat×Pos} (h:k.tup? = some t) (e:Expr):k.back e = .Tuple t.1 t.2.1 t.2.2:=by
 cases k <;> first | exact nso h | (obtain rfl:=Option.some.inj h; rfl)
theorem tupE_some {e:Expr} {t:List Expr×Nat×Pos} (h:tupE e=some t):e = .Tuple t.1 t.2.1 t.2.2:=(ek_back e).trans (tupE_k h e)
noncomputable def isAdd (o:Operator):Bool:=match o with
 | .Add=>true
 | _=>false
theorem isAdd_eq {o:Operator} (h:isAdd o=true):o = .Add:=by
 cases o <;> first | rfl | exact Bool.noConfusion h
noncomputable def EK.add? (k:EK):Option (Expr×Expr×Pos):=match k with
 | .bin a o b p=>cond (isAdd o) (some (a,b,p)) none
 | _=>none
noncomputable def addE (e:Expr):Option (Expr×Expr×Pos):=(ek e).add?
theorem addE_k {k:EK} {t:Expr×Expr×Pos} (h:k.add? = some t) (e:Expr):k.back e = .BinOp t.1 .Add t.2.1 t.2.2:=by
 cases k with
 | bin a o b p =>
  obtain ⟨h1,h2⟩:=cond_some h
  obtain rfl:=isAdd_eq h1
  obtain rfl:=Option.some.inj h2
  rfl
 | _=>exact nso h
theorem addE_some {e:Expr} {t:Expr×Expr×Pos} (h:addE e=some t):e = .BinOp t.1 .Add t.2.1 t.2.2:=(ek_back e).trans (addE_k h e)
noncomputable def oneL {α:Type} (l:List α):Option α:=match l with
 | []=>none
 | x::r=>cond r.isEmpty (some x) none
theorem oneL_some {α:Type} {l:List α} {x:α} (h:oneL l=some x):l=[x]:=by
 cases l with
 | nil=>exact nso h
 | cons y r=>cases r <;> first | (obtain rfl:=Option.some.inj h; rfl) | exact nso h
noncomputable def twoL {α:Type} (l:List α):Option (α×α):=match l with
 | []=>none
 | x::r=>(oneL r).map fun y=>(x,y)
theorem twoL_some {α:Type} {l:List α} {x:α×α} (h:twoL l=some x):l=[x.1,x.2]:=by
 cases l with
 | nil=>exact nso h
 | cons y r =>
  obtain ⟨z,hz,rfl⟩:=Option.map_eq_some_iff.mp (show Option.map _ (oneL r)=some x from h)
  obtain rfl:=oneL_some hz
  rfl
inductive SK where
 | ret (v:Option Expr) (p:Pos)
 | iff (t:Expr) (a b:List Stmt) (p:Pos)
 | exp (e:Expr) (p:Pos)
 | other
noncomputable def sk (s:Stmt):SK:=match s with
 | .Return v p=>.ret v p
 | .If t a b p=>.iff t a b p
 | .Expr e p=>.exp e p
 | _=>.other
noncomputable def SK.back (s:Stmt) (k:SK):Stmt:=match k with
 | .ret v p=>.Return v p
 | .iff t a b p=>.If t a b p
 | .exp e p=>.Expr e p
 | .other=>s
theorem sk_back (e:Stmt):e=(sk e).back e:=by
 cases e <;> rfl
noncomputable def SK.ret? (s:SK):Option (Expr×Pos):=match s with
 | .ret v p=>v.map fun e=>(e,p)
 | _=>none
noncomputable def retE (s:Stmt):Option (Expr×Pos):=(sk s).ret?
theorem retE_k {k:SK} {t:Expr×Pos} (h:k.ret? = some t) (e:Stmt):k.back e = .Return (some t.1) t.2:=by
 cases k with
 | ret v p=>cases v <;> first | (obtain rfl:=Option.some.inj h; rfl) | exact nso h
 | _=>exact nso h
theorem retE_some {e:Stmt} {t:Expr×Pos} (h:retE e=some t):e = .Return (some t.1) t.2:=(sk_back e).trans (retE_k h e)
noncomputable def SK.iff? (s:SK):Option (Expr×List Stmt×List Stmt×Pos):=match s with
 | .iff a b c d=>some (a,b,c,d)
 | _=>none
noncomputable def ifE (s:Stmt):Option (Expr×List Stmt×List Stmt×Pos):=(sk s).iff?
theorem ifE_k {k:SK} {t:Expr×List Stmt×List Stmt×Pos} (h:k.iff? = some t) (e:Stmt):k.back e = .If t.1 t.2.1 t.2.2.1 t.2.2.2:=by
 cases k <;> first | exact nso h | (obtain rfl:=Option.some.inj h; rfl)
theorem ifE_some {e:Stmt} {t:Expr×List Stmt×List Stmt×Pos} (h:ifE e=some t):e = .If t.1 t.2.1 t.2.2.1 t.2.2.2:=(sk_back e).trans (ifE_k h e)
noncomputable def tailS (t:Bool×Expr×Pos):Stmt:=cond t.1 (.Return (some t.2.1) t.2.2) (.Expr t.2.1 t.2.2)
noncomputable def SK.tail? (s:SK):Option (Bool×Expr×Pos):=match s with
 | .ret v p=>v.map fun e=>(true,e,p)
 | .exp e p=>some (false,e,p)
 | _=>none
noncomputable def tailE (s:Stmt):Option (Bool×Expr×Pos):=(sk s).tail?
theorem tailE_k {k:SK} {t:Bool×Expr×Pos} (h:k.tail? = some t) (e:Stmt):k.back e=tailS t:=by
 cases k with
 | ret v p=>cases v <;> first | (obtain rfl:=Option.some.inj h; rfl) | exact nso h
 | exp e p=>obtain rfl:=Option.some.inj h; rfl
 | _=>exact nso h
theorem tailE_some {e:Stmt} {t:Bool×Expr×Pos} (h:tailE e=some t):e=tailS t:=(sk_back e).trans (tailE_k h e)
noncomputable def isNE (o:CmpOp):Bool:=match o with
 | .NotEq=>true
 | _=>false
noncomputable def isEQ (o:CmpOp):Bool:=match o with
 | .Eq=>true
 | _=>false
theorem isNE_eq {o:CmpOp} (h:isNE o=true):o = .NotEq:=by
 cases o <;> first | rfl | exact Bool.noConfusion h
theorem isEQ_eq {o:CmpOp} (h:isEQ o=true):o = .Eq:=by
 cases o <;> first | rfl | exact Bool.noConfusion h
noncomputable def EK.cmp? (k:EK):Option (Expr×CmpOp×Expr×Pos):=match k with
 | .cmp l os rs p=>(oneL os).bind fun o=>(oneL rs).map fun r=>(l,o,r,p)
 | _=>none
noncomputable def cmpE (e:Expr):Option (Expr×CmpOp×Expr×Pos):=(ek e).cmp?
theorem cmpE_k {k:EK} {t:Expr×CmpOp×Expr×Pos} (h:k.cmp? = some t) (e:Expr):k.back e = .Compare t.1 [t.2.1] [t.2.2.1] t.2.2.2:=by
 cases k with
 | cmp l os rs p =>
  obtain ⟨o,ho,h⟩:=Option.bind_eq_some_iff.mp (show Option.bind (oneL os) _=some t from h)
  obtain ⟨r,hr,rfl⟩:=Option.map_eq_some_iff.mp h
  obtain rfl:=oneL_some ho
  obtain rfl:=oneL_some hr
  rfl
 | _=>exact nso h
theorem cmpE_some {e:Expr} {t:Expr×CmpOp×Expr×Pos} (h:cmpE e=some t):e = .Compare t.1 [t.2.1] [t.2.2.1] t.2.2.2:=(ek_back e).trans (cmpE_k h e)
noncomputable def xbi (c:Code):Option (String×List Value):=match c with
 | .builtin id a=>cond a.kw.isEmpty (some (id,a.pos)) none
 | _=>none
noncomputable def xci (c:Code):Option (Value×List Value):=match c with
 | .call f a=>cond a.kw.isEmpty (some (f,a.pos)) none
 | _=>none
theorem args_eq {a:Args} (h:a.kw.isEmpty=true):a=⟨a.pos,[]⟩:=by
 obtain ⟨p,k⟩:=a
 cases k with
 | nil=>rfl
 | cons x y=>exact Bool.noConfusion h
theorem bi_some {c:Code} {x:String×List Value} (h:xbi c=some x):c = .builtin x.1 ⟨x.2,[]⟩:=by
 cases c with
 | builtin id a =>
  obtain ⟨h1,h2⟩:=cond_some h
  obtain rfl:=Option.some.inj h2
  exact congrArg _ (args_eq h1)
 | _=>exact nso h
theorem ci_some {c:Code} {x:Value×List Value} (h:xci c=some x):c = .call x.1 ⟨x.2,[]⟩:=by
 cases c with
 | call id a =>
  obtain ⟨h1,h2⟩:=cond_some h
  obtain rfl:=Option.some.inj h2
  exact congrArg _ (args_eq h1)
 | _=>exact nso h
noncomputable def xvr (v:Value):Option Addr:=match v with
 | .ref a=>some a
 | _=>none
noncomputable def xvs (v:Value):Option (Str×Nat):=match v with
 | .str x t=>some (x,t)
 | _=>none
noncomputable def xvi (v:Value):Option (Int×Nat):=match v with
 | .int x t=>some (x,t)
 | _=>none
noncomputable def xvt (v:Value):Option String:=match v with
 | .type x=>some x
 | _=>none
theorem vr_some {v:Value} {x:Addr} (h:xvr v=some x):v = .ref x:=by
 cases v <;> first | exact nso h | (obtain rfl:=Option.some.inj h; rfl)
theorem vs_some {v:Value} {x:Str×Nat} (h:xvs v=some x):v = .str x.1 x.2:=by
 cases v <;> first | exact nso h | (obtain rfl:=Option.some.inj h; rfl)
theorem vi_some {v:Value} {x:Int×Nat} (h:xvi v=some x):v = .int x.1 x.2:=by
 cases v <;> first | exact nso h | (obtain rfl:=Option.some.inj h; rfl)
theorem vt_some {v:Value} {x:String} (h:xvt v=some x):v = .type x:=by
 cases v <;> first | exact nso h | (obtain rfl:=Option.some.inj h; rfl)
section
variable {α β γ:Type}
noncomputable def xl1 (f:Value->Option α) (l:List Value):Option α:=(oneL l).bind f
noncomputable def xl2 (f:Value->Option α) (g:Value->Option β) (l:List Value):Option (α×β):=match l with
 | []=>none
 | x::r=>(f x).bind fun a=>(xl1 g r).map fun b=>(a,b)
noncomputable def xl3 (f:Value->Option α) (g:Value->Option β) (k:Value->Option γ) (l:List Value):Option (α×β×γ):=match l with
 | []=>none
 | x::r=>(f x).bind fun a=>(xl2 g k r).map fun b=>(a,b)
theorem l1_some {f:Value->Option α} {l:List Value} {a:α} (h:xl1 f l=some a):∃ x,l=[x]∧f x=some a:=by
 obtain ⟨x,hx,h⟩:=Option.bind_eq_some_iff.mp h
 exact ⟨x,oneL_some hx,h⟩
theorem l2_some {f:Value->Option α} {g:Value->Option β} {l:List Value} {a:α} {b:β} (h:xl2 f g l=some (a,b)):∃ x y,l=[x,y]∧f x=some a∧g y=some b:=by
 cases l with
 | nil=>exact nso h
 | cons x r =>
  obtain ⟨a',hx,h'⟩:=Option.bind_eq_some_iff.mp h
  obtain ⟨b',hb,h''⟩:=Option.map_eq_some_iff.mp h'
  cases h''
  obtain ⟨y,rfl,hy⟩:=l1_some hb
  exact ⟨x,y,rfl,hx,hy⟩
theorem l3_some {f:Value->Option α} {g:Value->Option β} {k:Value->Option γ} {l:List Value} {a:α} {b:β} {c:γ} (h:xl3 f g k l=some (a,b,c)):∃ x y z,l=[x,y,z]∧f x=some a∧g y=some b∧k z=some c:=by
 cases l with
 | nil=>exact nso h
 | cons x r =>
  obtain ⟨a',hx,h'⟩:=Option.bind_eq_some_iff.mp h
  obtain ⟨b',hb,h''⟩:=Option.map_eq_some_iff.mp h'
  cases h''
  obtain ⟨y,z,rfl,hy,hz⟩:=l2_some hb
  exact ⟨x,y,z,rfl,hx,hy,hz⟩
noncomputable def xbL (f:List Value->Option α) (c:Code):Option (String×α):=(xbi c).bind fun x=>(f x.2).map fun y=>(x.1,y)
noncomputable def xcL (f:List Value->Option α) (c:Code):Option (Value×α):=(xci c).bind fun x=>(f x.2).map fun y=>(x.1,y)
theorem bL_some {f:List Value->Option α} {c:Code} {id:String} {y:α} (h:xbL f c=some (id,y)):∃ l,c = .builtin id ⟨l,[]⟩∧f l=some y:=by
 obtain ⟨x,hx,h1⟩:=Option.bind_eq_some_iff.mp h
 obtain ⟨b,hb,h2⟩:=Option.map_eq_some_iff.mp h1
 cases h2
 exact ⟨x.2,bi_some hx,hb⟩
theorem cL_some {f:List Value->Option α} {c:Code} {id:Value} {y:α} (h:xcL f c=some (id,y)):∃ l,c = .call id ⟨l,[]⟩∧f l=some y:=by
 obtain ⟨x,hx,h1⟩:=Option.bind_eq_some_iff.mp h
 obtain ⟨b,hb,h2⟩:=Option.map_eq_some_iff.mp h1
 cases h2
 exact ⟨x.2,ci_some hx,hb⟩
end
theorem b1_some {c:Code} {id:String} {a:Addr} (h:xbL (xl1 xvr) c=some (id,a)):c = .builtin id ⟨[.ref a],[]⟩:=by
 obtain ⟨l,rfl,k⟩:=bL_some h
 obtain ⟨z1,rfl,k1⟩:=l1_some k
 obtain rfl:=vr_some k1
 rfl
theorem b2_some {c:Code} {id:String} {a b:Addr} (h:xbL (xl2 xvr xvr) c=some (id,a,b)):c = .builtin id ⟨[.ref a,.ref b],[]⟩:=by
 obtain ⟨l,rfl,k⟩:=bL_some h
 obtain ⟨z1,z2,rfl,k1,k2⟩:=l2_some k
 obtain rfl:=vr_some k1
 obtain rfl:=vr_some k2
 rfl
theorem b3_some {c:Code} {id:String} {a b d:Addr} (h:xbL (xl3 xvr xvr xvr) c=some (id,a,b,d)):c = .builtin id ⟨[.ref a,.ref b,.ref d],[]⟩:=by
 obtain ⟨l,rfl,k⟩:=bL_some h
 obtain ⟨z1,z2,z3,rfl,k1,k2,k3⟩:=l3_some k
 obtain rfl:=vr_some k1
 obtain rfl:=vr_some k2
 obtain rfl:=vr_some k3
 rfl
theorem c1_some {c:Code} {f:Value} {a:Addr} (h:xcL (xl1 xvr) c=some (f,a)):c = .call f ⟨[.ref a],[]⟩:=by
 obtain ⟨l,rfl,k⟩:=cL_some h
 obtain ⟨z1,rfl,k1⟩:=l1_some k
 obtain rfl:=vr_some k1
 rfl
theorem c2_some {c:Code} {f:Value} {a b:Addr} (h:xcL (xl2 xvr xvr) c=some (f,a,b)):c = .call f ⟨[.ref a,.ref b],[]⟩:=by
 obtain ⟨l,rfl,k⟩:=cL_some h
 obtain ⟨z1,z2,rfl,k1,k2⟩:=l2_some k
 obtain rfl:=vr_some k1
 obtain rfl:=vr_some k2
 rfl
theorem bA_some {c:Code} {id:String} {a:Addr} {v:Value} (h:xbL (xl2 xvr some) c=some (id,a,v)):c = .builtin id ⟨[.ref a,v],[]⟩:=by
 obtain ⟨l,rfl,k⟩:=bL_some h
 obtain ⟨z1,z2,rfl,k1,k2⟩:=l2_some k
 obtain rfl:=vr_some k1
 obtain rfl:=Option.some.inj k2
 rfl
theorem bT_some {c:Code} {id:String} {t:String} {a:Addr} (h:xbL (xl2 xvt xvr) c=some (id,t,a)):c = .builtin id ⟨[.type t,.ref a],[]⟩:=by
 obtain ⟨l,rfl,k⟩:=bL_some h
 obtain ⟨z1,z2,rfl,k1,k2⟩:=l2_some k
 obtain rfl:=vt_some k1
 obtain rfl:=vr_some k2
 rfl
theorem bs1_some {c:Code} {id:String} {x:Str×Nat} (h:xbL (xl1 xvs) c=some (id,x)):c = .builtin id ⟨[.str x.1 x.2],[]⟩:=by
 obtain ⟨l,rfl,k⟩:=bL_some h
 obtain ⟨z1,rfl,k1⟩:=l1_some k
 obtain rfl:=vs_some k1
 rfl
theorem bs2_some {c:Code} {id:String} {x y:Str×Nat} (h:xbL (xl2 xvs xvs) c=some (id,x,y)):c = .builtin id ⟨[.str x.1 x.2,.str y.1 y.2],[]⟩:=by
 obtain ⟨l,rfl,k⟩:=bL_some h
 obtain ⟨z1,z2,rfl,k1,k2⟩:=l2_some k
 obtain rfl:=vs_some k1
 obtain rfl:=vs_some k2
 rfl
theorem bi2_some {c:Code} {id:String} {x y:Int×Nat} (h:xbL (xl2 xvi xvi) c=some (id,x,y)):c = .builtin id ⟨[.int x.1 x.2,.int y.1 y.2],[]⟩:=by
 obtain ⟨l,rfl,k⟩:=bL_some h
 obtain ⟨z1,z2,rfl,k1,k2⟩:=l2_some k
 obtain rfl:=vi_some k1
 obtain rfl:=vi_some k2
 rfl
theorem cj_some {c:Code} {f:Value} {x:Str×Nat} {a:Addr} (h:xcL (xl2 xvs xvr) c=some (f,x,a)):c = .call f ⟨[.str x.1 x.2,.ref a],[]⟩:=by
 obtain ⟨l,rfl,k⟩:=cL_some h
 obtain ⟨z1,z2,rfl,k1,k2⟩:=l2_some k
 obtain rfl:=vs_some k1
 obtain rfl:=vr_some k2
 rfl
theorem b1_eq (id:String) (a:Addr):xbL (xl1 xvr) (.builtin id ⟨[.ref a],[]⟩)=some (id,a):=rfl
theorem b2_eq (id:String) (a b:Addr):xbL (xl2 xvr xvr) (.builtin id ⟨[.ref a,.ref b],[]⟩)=some (id,a,b):=rfl
theorem b3_eq (id:String) (a b d:Addr):xbL (xl3 xvr xvr xvr) (.builtin id ⟨[.ref a,.ref b,.ref d],[]⟩)=some (id,a,b,d):=rfl
theorem bA_eq (id:String) (a:Addr) (v:Value):xbL (xl2 xvr some) (.builtin id ⟨[.ref a,v],[]⟩)=some (id,a,v):=rfl
theorem bT_eq (id t:String) (a:Addr):xbL (xl2 xvt xvr) (.builtin id ⟨[.type t,.ref a],[]⟩)=some (id,t,a):=rfl
theorem c1_eq (f:Value) (a:Addr):xcL (xl1 xvr) (.call f ⟨[.ref a],[]⟩)=some (f,a):=rfl
theorem cs_some {c:Code} {f:Value} {x:Str×Nat} (h:xcL (xl1 xvs) c=some (f,x)):c = .call f ⟨[.str x.1 x.2],[]⟩:=by
 obtain ⟨l,rfl,k⟩:=cL_some h
 obtain ⟨z1,rfl,k1⟩:=l1_some k
 obtain rfl:=vs_some k1
 rfl
noncomputable def xvb (v:Value):Option String:=match v with
 | .builtin a=>some a
 | _=>none
theorem vb_some {v:Value} {x:String} (h:xvb v=some x):v = .builtin x:=by
 cases v <;> first | exact nso h | (obtain rfl:=Option.some.inj h; rfl)
noncomputable def callOf (c:Code):Option (String×List Value):=(xci c).bind fun x=>(xvb x.1).map fun id=>(id,x.2)
theorem callOf_some {c:Code} {id:String} {l:List Value} (h:callOf c=some (id,l)):c = .call (.builtin id) ⟨l,[]⟩:=by
 obtain ⟨x,hx,h1⟩:=Option.bind_eq_some_iff.mp h
 obtain ⟨b,hb,h2⟩:=Option.map_eq_some_iff.mp h1
 cases h2
 obtain ⟨x1,x2⟩:=x
 obtain rfl:=vb_some hb
 exact ci_some hx
noncomputable def smOf (c:Code):Option (String×Nat):=(callOf c).bind fun x=>(xl1 xvr x.2).map fun a=>(x.1,a)
noncomputable def spOf (c:Code):Option (String×Str×Str):=(callOf c).bind fun x=>(xl2 xvs xvs x.2).map fun y=>(x.1,y.1.1,y.2.1)
theorem sm_eq {c:Code} {id:String} {a:Nat} (h:smOf c=some (id,a)):c = .call (.builtin id) ⟨[.ref a],[]⟩:=by
 obtain ⟨⟨x,l⟩,hx,h1⟩:=Option.bind_eq_some_iff.mp h
 obtain ⟨b,hb,h2⟩:=Option.map_eq_some_iff.mp h1
 cases h2
 obtain ⟨z,rfl,k⟩:=l1_some hb
 obtain rfl:=vr_some k
 exact callOf_some hx
theorem spOf_some {c:Code} {id:String} {a b:Str} (h:spOf c=some (id,a,b)):∃ t u,c = .call (.builtin id) ⟨[.str a t,.str b u],[]⟩:=by
 obtain ⟨⟨x,l⟩,hx,h1⟩:=Option.bind_eq_some_iff.mp h
 obtain ⟨⟨⟨y,t⟩,z,u⟩,hb,h2⟩:=Option.map_eq_some_iff.mp h1
 cases h2
 obtain ⟨z1,z2,rfl,k1,k2⟩:=l2_some hb
 obtain rfl:=vs_some k1
 obtain rfl:=vs_some k2
 exact ⟨t,u,callOf_some hx⟩
noncomputable def itOf (d:Data):Option (Str×Nat×Int):=match d with
 | .fields vs=>(xl2 xvs xvi vs.toList).bind fun y=>cond (Nat.beq y.2.2 0) (some (y.1.1,y.1.2,y.2.1)) none
 | _=>none
theorem itOf_some {d:Data} {x:Str} {t:Nat} {i:Int} (h:itOf d=some (x,t,i)):d = .fields ⟨[.str x t,.int i 0]⟩:=by
 cases d with
 | fields vs =>
  obtain ⟨⟨⟨x1,t1⟩,i1,u⟩,hb,h2⟩:=Option.bind_eq_some_iff.mp h
  obtain ⟨h3,h4⟩:=cond_some h2
  cases h4
  obtain ⟨z1,z2,hl,k1,k2⟩:=l2_some hb
  obtain rfl:=vs_some k1
  obtain rfl:=vi_some k2
  obtain rfl:=Nat.eq_of_beq_eq_true h3
  obtain ⟨vs⟩:=vs
  obtain rfl:=(show vs=_ from hl)
  rfl
 | _=>exact nso h
theorem v3_some {l:List Value} {v:Value} {x y:Addr} (h:xl3 some xvr xvr l=some (v,x,y)):l=[v,.ref x,.ref y]:=by
 obtain ⟨z1,z2,z3,rfl,k1,k2,k3⟩:=l3_some h
 obtain rfl:=Option.some.inj k1
 obtain rfl:=vr_some k2
 obtain rfl:=vr_some k3
 rfl
end
section
theorem fr_b (b:Bool):(if b=true then 1 else 0)≤3:=by cases b <;> decide
theorem dite_le3 {p:Prop} [d:Decidable p] {x:p->Nat} {y:¬p->Nat} (h1:∀ h,x h≤3) (h2:∀ h,y h≤3):dite p x y≤3:=by
 cases d with
 | isTrue h=>exact h1 h
 | isFalse h=>exact h2 h
theorem fr_le {c:Code}:c.frames≤3:=by
 delta Code.frames Code.frames.match_1 Code.frames._sparseCasesOn_1
 cases c with
 | builtin id a =>
  dsimp only
  iterate 9 (refine dite_le3 (fun h=>by subst h; decide) (fun _=>?_))
  exact fr_b _
 | _=>exact fr_b _
theorem weight_le {c:Code} (h:c.isCaller=false):c.weight≤5:=by
 have hf:c.frames≤3:=fr_le
 unfold Code.weight
 rw [h]
 have h1:(if c.isCreation=true then 1 else 0)≤1:=by split <;> omega
 have h2:(if c.isGuard=true then 1 else 0)≤1:=by split <;> omega
 simp only [Bool.false_eq_true,if_false]
 exact om258 hf h1 h2
noncomputable def Kn.len:Kn->Nat
 | .nil=>0
 | .cons _ _ κ=>κ.len + 1
noncomputable def Kn.okc:Kn->Prop
 | .nil=>True
 | .cons c _ κ=>c.isCaller=false∧κ.okc
theorem arK_handled (A:Around):∀ κ,(arK A κ).handled=A.handled
 | .nil=>rfl
 | .cons c _ κ=>arK_handled A κ
theorem arK_depth (A:Around):∀ κ:Kn,κ.okc->(arK A κ).depth≤A.depth + 5 * κ.len
 | .nil,_=>Nat.le_refl _
 | .cons c _ κ,h=>by
  have h1:=arK_depth A κ h.2
  have h2:=weight_le h.1
  show (arK A κ).depth + c.weight≤A.depth + 5 * (κ.len + 1)
  exact om259 h1 h2
theorem mark_none (A:Around):A.mark none=A:=by
 cases A; rfl
theorem call_own {prog:Program} {w:World} {A:Around} {R:Result->Shared->Prop} {s:Shared} {a:Addr} {args:Args} {o:Obj} {fd:FuncData} {body:List Stmt} (hroom:A.depth<recursionLimit)
 (ho:s.heap.get? a=some o) (hd':o.data = .func fd) (hco:fd.scope.isCoroutine=false) (hgen:fd.scope.isGenerator=false) (hbody:fd.body = .stmts body) (hcd:s.heap.CodeRec fd.code fd.qualname)
 (h:wpOwn (model prog w) A (.call (.ref a) args) (callF a args (fd,body)) (fun fin s'=>∃ c',fin = .again c'∧s'.heap.NoLimit∧codeAny (model prog w) A c' R s') (postE R) s) :
 codeAny (model prog w) A (.call (.ref a) args) R s:=by
 refine codeAny_of_own ?_
 show wpOwn (model prog w) A _ (callAny (.ref a) args) _ _ s
 simp only [callAny]
 refine wpOwn_bind (wpOwn_of_wpAny (wpAny_load ho ?_))
 obtain ⟨c,oc,vs,tq,hc,hoc,hdc,hq⟩:=hcd
 simp only [hd',callFunction,hco,hgen,hbody,hc]
 refine wpOwn_bind (m:=field (.ref c) 1) (wpOwn_of_wpAny (wpAny_field hoc hdc hq ?_))
 intro Γ p hcΓ hΓ
 have hh:=h Γ p hcΓ hΓ
 unfold callF at hh
 rw [← bindF_eq,← envF_eq,← PySem.W.R.bindR_eq] at hh
 dsimp only at hh
 rw [Sem.wp_bind] at hh
 show Sem.wp (model prog w) Γ (Sem.bind (bindArgs fd args) _) _ _ p s
 rw [Sem.wp_bind]
 refine Sem.wp_mono _ _ _ (fun bs p' s' h'=>?_) (fun e p' s' h'=>h') p s hh
 rw [Sem.wp_bind] at h'
 show Sem.wp (model prog w) Γ (Sem.bind (newFunctionEnv _ _ _ _ _ _ _ _ _) _) _ _ p' s'
 rw [Sem.wp_bind]
 have eq:(".<locals>.":Str)=⟨⟨[46,60,108,111,99,97,108,115,62,46]⟩⟩:=by decide +kernel
 rw [hc] at h'
 refine Sem.wp_mono _ _ _ (fun env p'' s'' h''=>?_) (fun e p'' s'' h''=>h'') p' s' (by rw [eq]; exact h')
 obtain ⟨c',e,hl,hcode⟩:=h''
 cases e
 have q:wpAny (model prog w) (A.under (.call (.ref a) args)) enterFrame (fun _ s=>s=s'') (fun _ _=>False) s'':=wpAny_enterFrame hl (by show A.depth + _<_; exact hroom) rfl
 rw [Sem.wp_bind']
 refine Sem.wp_mono _ _ _ (fun _ p3 s3 e=>?_) (fun _ _ _ f=>f.elim) p'' s'' (q Γ p'' (hcΓ ▸ hΓ.in))
 subst e
 exact ⟨rfl,hcode⟩
section
variable (prog:Program) (w:World) (A:Around) (R:Result->Shared->Prop) (E:En) (h₀:Heap) (G:Array GenState) (dr:Drawn) (os:OsState)
noncomputable def sh (h:Heap) (i:Nat) (gs:List Code):Shared:=⟨h,G++(gs.map GenState.fresh).toArray,dr,E.t0 + i,os⟩
noncomputable def Good:Rs->Prop
 | .bad _=>False
 | .done r T m i gs _ _=>∀ h,Rep E.kt E.ad h₀ h T m->R r (sh E G dr os h i gs)
 | .stop c' c k κ d T m i gs _ _=>κ.okc->c.isCaller=false->κ.len≤d->κ.len≤42->∀ h,Rep E.kt E.ad h₀ h T m->codeAny (model prog w) (arK A (.cons c k κ)) c' (RK prog w A R (.cons c k κ)) (sh E G dr os h i gs)
 | .again c' κ d T m i gs _ _=>κ.okc->κ.len≤d->κ.len≤42->∀ h,Rep E.kt E.ad h₀ h T m->codeAny (model prog w) (arK A κ) c' (RK prog w A R κ) (sh E G dr os h i gs)
end
noncomputable def Rs.ob:Rs->List (Nat×Nat)
 | .bad _=>[]
 | .done _ _ _ _ _ ob _=>ob
 | .stop _ _ _ _ _ _ _ _ _ ob _=>ob
 | .again _ _ _ _ _ _ _ ob _=>ob
noncomputable def Rs.op:Rs->List Prop
 | .bad _=>[]
 | .done _ _ _ _ _ _ op=>op
 | .stop _ _ _ _ _ _ _ _ _ _ op=>op
 | .again _ _ _ _ _ _ _ _ op=>op
noncomputable def SpOk (prog:Program) (w:World) (sp:Nat->Code->Option (Sem Fin×Prop)) (D:Nat) (kt:KT):Prop :=
 ∀ q c t φ,sp q c=some (t,φ)->φ->∀ (A:Around) (R:Result->Shared->Prop) (s:Shared),A.handled=none->A.depth≤D->kt.Holds s.heap 1 0 →
  wpOwn (model prog w) A c t (postC prog w A R) (postE R) s->codeAny (model prog w) A c R s
section
variable {kt:KT} {ad:Nat->Nat} {h₀ h:Heap} {T:BT} {m:Nat}
theorem Rep.look (D:Rep kt ad h₀ h T m) {a:Addr} {x:Obj} (e:kt.get a=some x):h.get? a=some x:=by
 have z:=KT.Holds.get D.base e
 rw [Nat.one_mul,Nat.add_zero] at z
 exact z
theorem Rep.alloc (D:Rep kt ad h₀ h T m) {x:Obj} (hf:x.isFreed=false) (hg:((T.ins m x).get m).isSome=true):ad m=h.objs.size∧Rep kt ad h₀ (h.push x) (T.ins m x) (m + 1):=by
 have hm:ad m=h.objs.size:=by rw [D.next m (Nat.le_refl _),Nat.sub_self,Nat.add_zero]
 refine ⟨hm,KT.Holds.keeps (fun b o e=>Heap.get?_push_of_some _ e) D.base,fun j hj=>?_,fun j hj=>?_,fun i j hi hj e=>?_,fun j y e=>?_,fun j hj a y e=>?_,fun a y e hn=>?_,?_⟩
 · rw [D.next j (by exact om4 hj),Heap.size_push]; exact om260 hj
 · rw [Heap.size_push]
   by_cases q:j=m
   · subst q; exact om261 hm
   · have:=D.low j (by exact om33 hj q); exact om36 this
 · by_cases qi:i=m
   · by_cases qj:j=m
     · exact om34 qi qj
     · have:=D.low j (by exact om33 hj qj); subst qi; exact om262 e this hm
   · by_cases qj:j=m
     · have:=D.low i (by exact om33 hi qi); subst qj; exact om263 e this hm
     · exact D.inj i j (by exact om33 hi qi) (by exact om33 hj qj) e
 · rw [BT.get_ins x T m hg] at e
   by_cases q:j=m
   · subst q
     rw [if_pos rfl] at e
     cases e
     exact ⟨Nat.lt_succ_self _,by rw [hm]; exact Heap.get?_push_size _ hf⟩
   · rw [if_neg q] at e
     have z:=D.own j y e
     exact ⟨by exact om35 z,Heap.get?_push_of_some _ z.2⟩
 · by_cases q:j=m
   · subst q
     have:=Heap.lt_size (D.look e)
     exact fun q=>by rw [hm] at q; exact absurd this (by rw [q]; exact Nat.lt_irrefl _)
   · exact D.off j (by exact om33 hj q) a y e
 · exact Heap.get?_push_of_some _ (D.keep a y e fun j hj=>hn j (by exact om36 hj))
 · rw [Heap.size_push]; have:=D.size; exact om255 this
theorem Rep.update (D:Rep kt ad h₀ h T m) {j:Nat} {x:Obj} {f:Obj->Obj} (e:T.get j=some x) (hf:(f x).isFreed=false):h.get? (ad j)=some x∧Rep kt ad h₀ (h.update (ad j) f) (T.set j f) m:=by
 have z:=D.own _ _ e
 have hs:Heap.SameBut (ad j) h (h.update (ad j) f):=Heap.SameBut.update ..
 refine ⟨z.2,?_,fun i hi=>?_,fun i hi=>?_,D.inj,fun i y e'=>?_,D.off,fun a y e' hn=>?_,?_⟩
 · have hoff:=D.off j z.1
   have hb:=D.base
   clear D e
   have key:∀ (t:KT) (s b:Nat),(∀ i o,t.get i=some o->ad j ≠ s * i + b)->t.Holds h s b->t.Holds (h.update (ad j) f) s b:=by
    intro t
    induction t with
    | nil=>intro _ _ _ _; trivial
    | node v l r ihl ihr =>
     intro s b hne H
     refine ⟨fun o eo=>?_,ihl _ _ (fun i o ei=>?_) H.2.1,ihr _ _ (fun i o ei=>?_) H.2.2⟩
     · have hb0:ad j ≠ b:=by
        have:=hne 0 o (by rw [KT.get_node]; simpa using eo)
        simpa using this
       exact (hs.2 b (Ne.symm hb0)).trans (H.1 o eo)
     · have:=hne (2 * i + 1) o (by
        rw [KT.get_node,if_neg (by exact om24),if_pos (by exact om25)]
        have:(2 * i + 1) / 2=i:=by exact om26
        rw [this]; exact ei)
       intro e; apply this; rw [e,Nat.mul_add,Nat.mul_one,← Nat.mul_assoc,Nat.mul_comm s 2]; exact om27
     · have:=hne (2 * i + 2) o (by
        rw [KT.get_node,if_neg (by exact om28),if_neg (by exact om29)]
        have:(2 * i + 2) / 2 - 1=i:=by exact om30
        rw [this]; exact ei)
       intro e; apply this; rw [e,Nat.mul_add,← Nat.mul_assoc,Nat.mul_comm s 2]; exact om31
   exact key kt 1 0 (fun i o ei=>by rw [Nat.one_mul,Nat.add_zero]; exact hoff i o ei) hb
 · rw [hs.1]; exact D.next i hi
 · rw [hs.1]; exact D.low i hi
 · rw [BT.get_set] at e'
   by_cases q:i=j
   · subst q
     rw [if_pos rfl,e] at e'
     cases e'
     refine ⟨z.1,?_⟩
     first | exact Heap.get?_update_self f z.2 hf | exact Heap.get?_update_self _ z.2 hf
   · rw [if_neg q] at e'
     have y':=D.own i y e'
     exact ⟨y'.1,(hs.2 _ fun e=>q (D.inj i j y'.1 z.1 e)).trans y'.2⟩
 · exact (hs.2 a (Ne.symm (hn j z.1))).trans (D.keep a y e' hn)
 · rw [hs.1]; exact D.size
end
end
section
noncomputable def Rs.isBad:Rs->Prop
 | .bad _=>True
 | _=>False
noncomputable def Mo (ob:List (Nat×Nat)) (op:List Prop) (r:Rs):Prop:=r.isBad∨((∀ x∈ob,x∈r.ob)∧∀ x∈op,x∈r.op)
section
variable {ob:List (Nat×Nat)} {op:List Prop} {r:Rs}
theorem moBad {n:Nat}:Mo ob op (.bad n):=.inl trivial
theorem moOb {y:Nat×Nat} (h:Mo (y::ob) op r):Mo ob op r:=h.imp_right fun h=>⟨fun x hx=>h.1 x (.tail _ hx),h.2⟩
theorem moOp {y:Prop} (h:Mo ob (y::op) r):Mo ob op r:=h.imp_right fun h=>⟨h.1,fun x hx=>h.2 x (.tail _ hx)⟩
theorem moEnd (h:r.ob=ob) (h':r.op=op):Mo ob op r:=.inr ⟨fun _ x=>h ▸ x,fun _ x=>h' ▸ x⟩
theorem moO {α:Type u} {a:Option α} {f:α->Rs} {d:Rs} (h:∀ x,Mo ob op (f x)) (h':Mo ob op d):Mo ob op (elO a f d):=by
 cases a with
 | some x=>exact h x
 | none=>exact h'
theorem moB {b:Bool} {x y:Rs} (h:Mo ob op x) (h':Mo ob op y):Mo ob op (bO b x y):=by
 cases b with
 | true=>exact h
 | false=>exact h'
theorem moN {n:Nat} {x:Rs} {f:Nat->Rs} (h:Mo ob op x) (h':∀ k,Mo ob op (f k)):Mo ob op (nO n x f):=by
 cases n with
 | zero=>exact h
 | succ k=>exact h' k
end
theorem run_mono (E:En):∀ n b c t κ d T m i gs o ob op,Mo ob op (run E n b c t κ d T m i gs o ob op):=by
 intro n
 induction n with
 | zero=>intros; exact moBad
 | succ n ih =>
  intro b c t κ d T m i gs o ob op
  cases t with
  | pure f=>cases f with
   | done f=>exact moB moBad (match κ with | .nil=>moEnd rfl rfl | .cons _ _ _=>ih ..)
   | again c'=>exact moB (moB moBad (moN (ih ..) fun _=>moN (moEnd rfl rfl) fun _=>moO (fun _=>moOp (ih ..)) moBad)) moBad
  | raise e=>exact match κ with | .nil=>moEnd rfl rfl | .cons _ _ _=>ih ..
  | rule _ k=>exact ih ..
  | «at» _ k=>exact ih ..
  | point _ k=>exact ih ..
  | ask k=>exact ih ..
  | load a _ k=>exact moN (moO (fun _=>ih ..) moBad) fun _=>moO (fun _=>moOb (ih ..)) moBad
  | update a _ f k=>exact moN moBad fun _=>moO (fun _=>moB moBad (moOb (ih ..))) moBad
  | alloc x k=>exact moB moBad (moO (fun _=>ih ..) moBad)
  | fresh k=>exact ih ..
  | handled own k=>exact moB moBad (ih ..)
  | newGen c' k=>exact ih ..
  | call c' hd _ _ k=>exact moO (fun _=>moBad) (moB moBad (moB moBad (moB (moN (ih ..) fun _=>moN (moEnd rfl rfl) fun _=>moN (moO (fun _=>moO (fun _=>ih ..) moBad) moBad) fun _=>moO (fun _=>moOp (ih ..)) moBad) moBad)))
  | _=>exact moBad
theorem defAt_spec {kt:KT} {a:Addr} {fd:FuncData} {body:List Stmt} (e:defAt kt a=some (fd,body)) :
 ∃ x cc oc vs q tk,kt.get a=some x∧x.data = .func fd∧fd.body = .stmts body∧fd.scope.isCoroutine=false∧fd.scope.isGenerator=false∧fd.code = .ref cc∧kt.get cc=some oc∧oc.data = .fields vs∧vs[1]? = some (.str q tk)∧q=fd.qualname:=by
 obtain ⟨x,hx,e1⟩:=bind_some e
 clear e
 obtain ⟨fd',hfd,e2⟩:=bind_some e1
 clear e1
 obtain ⟨body',hb,e1⟩:=bind_some e2
 clear e2
 obtain ⟨hco,e2⟩:=cond_none e1
 clear e1
 obtain ⟨hg,e1⟩:=cond_none e2
 clear e2
 obtain ⟨cc,hcc,e2⟩:=bind_some e1
 clear e1
 obtain ⟨q,hq,e1⟩:=bind_some e2
 clear e2
 obtain ⟨oc,hoc,e2⟩:=bind_some hq
 clear hq
 obtain ⟨vs,hvs,e3⟩:=bind_some e2
 clear e2
 obtain ⟨v,hv,e2⟩:=bind_some e3
 clear e3
 obtain ⟨⟨y,tk⟩,hy,rfl⟩:=map_some' e2
 clear e2
 obtain ⟨hq,e2⟩:=cond_some e1
 clear e1
 cases e2
 exact ⟨x,cc,oc,vs,y,tk,hx,funcD_some hfd,stmtsB_some hb,hco,hg,adr?_some hcc,hoc,fieldsD_some hvs,hv.trans (congrArg some (str?_some hy)),PySem.W.Fast.sEq_iff.mp hq⟩
section
variable {prog:Program} {w:World} {A:Around} {R:Result->Shared->Prop} {E:En} {h₀:Heap} {G:Array GenState} {dr:Drawn} {os:OsState}
variable (prog w A R E h₀ G dr os) in
structure PK (P:Rs->Prop):Prop where
 good:∀ r,P r->Good prog w A R E h₀ G dr os r
 ob:∀ {n b c t κ d T m i gs o ob op} {x:Nat×Nat},P (run E n b c t κ d T m i gs o (x::ob) op)->x.1=x.2
 op:∀ {n b c t κ d T m i gs o ob op} {x:Prop},P (run E n b c t κ d T m i gs o ob (x::op))->x
theorem sound_P {P:Rs->Prop} (K:PK prog w A R E h₀ G dr os P) (hst:E.st=⟨prog,w.params⟩) (hg:E.g0=G.size) (hA:A.handled=none) (hd:A.depth + 210<recursionLimit) (hsp:SpOk prog w E.sp (A.depth + 210) E.kt) (hlim:∀ h,E.kt.Holds h 1 0->h.NoLimit) :
 ∀ n b c t κ d T m i gs o ob op h,κ.okc->c.isCaller=false->κ.len≤d->κ.len≤42->P (run E n b c t κ d T m i gs o ob op)->Rep E.kt E.ad h₀ h T m->Means prog w A R b c t κ (sh E G dr os h i gs):=by
 have bad:∀ {n:Nat},P (.bad n)->False:=K.good _
 have plain:∀ {c':Code} {κ:Kn} {s:Shared},Means prog w A R false c' (denF c') κ s->codeAny (model prog w) (arK A κ) c' (RK prog w A R κ) s:=fun x=>by
  rw [← denF_eq] at x
  exact y_code _ _ _ _ _ _ x
 intro n
 induction n with
 | zero=>intro b c t κ d T m i gs o ob op h hk hc hl hl2 H D; exact (bad H).elim
 | succ n ih =>
  intro b c t κ d T m i gs o ob op h hk hc hl hl2 H D
  have hh:(arK A κ).handled=none:=by rw [arK_handled]; exact hA
  have hdep:(arK A κ).depth≤A.depth + 210:=Nat.le_trans (arK_depth A κ hk) (by exact om264 hl2)
  cases t with
  | pure f =>
   cases f with
   | done f =>
    obtain ⟨rfl,H⟩:=pF P bad H
    cases κ with
    | nil=>exact y_pure _ _ _ _ _ _ _ _ _ (show RK prog w A R .nil (.ok f) _ from K.good _ H h D)
    | cons c₁ k κ=>exact y_pure _ _ _ _ _ _ _ _ _ (show RK prog w A R (.cons c₁ k κ) (.ok f) _ from ih _ _ _ _ _ _ _ _ _ _ _ _ h hk.2 hk.1 (Nat.le_sub_one_of_lt hl) (Nat.le_of_succ_le hl2) H D)
   | again c' =>
    obtain ⟨q,H⟩:=pT P bad H
    obtain ⟨hcl',H⟩:=pF P bad H
    have hq:c'.quiet=true:=by rw [quietF_eq]; exact q
    have hcl:c'.isCaller=false:=by rw [callerF_eq]; exact hcl'
    have key:codeAny (model prog w) (arK A κ) c' (RK prog w A R κ) (sh E G dr os h i gs):=by
     rcases pN P H with ⟨_,H⟩ | ⟨q,_,H⟩
     · exact plain (ih _ _ _ _ _ _ _ _ _ _ _ _ h hk hcl hl hl2 H D)
     · rcases pN P H with ⟨_,H⟩ | ⟨q,_,H⟩
       · exact K.good _ H hk hl hl2 h D
       · obtain ⟨p,hs,H⟩:=pO P bad H
         exact hsp q c' p.1 p.2 hs (K.op H) _ _ _ hh hdep D.base (ih _ _ _ _ _ _ _ _ _ _ _ _ h hk hcl hl hl2 H D)
    cases b with
    | false=>exact y_pure _ _ _ _ _ _ _ _ _ (show c'.quiet=true∧_ from ⟨hq,key⟩)
    | true=>exact y_pure _ _ _ _ _ _ _ _ _ ⟨c',rfl,hlim h D.base,key⟩
  | raise e =>
   cases κ with
   | nil=>exact y_raise _ _ _ _ _ _ _ _ _ (show RK prog w A R .nil (.error e) _ from K.good _ H h D)
   | cons c₁ k κ=>exact y_raise _ _ _ _ _ _ _ _ _ (show RK prog w A R (.cons c₁ k κ) (.error e) _ from ih _ _ _ _ _ _ _ _ _ _ _ _ h hk.2 hk.1 (Nat.le_sub_one_of_lt hl) (Nat.le_of_succ_le hl2) H D)
  | rule tag k=>exact y_skim _ _ _ _ _ _ _ _ _ 1 (ih _ _ _ _ _ _ _ _ _ _ _ _ h hk hc hl hl2 H D)
  | «at» q k=>exact y_skim _ _ _ _ _ _ _ _ _ 1 (ih _ _ _ _ _ _ _ _ _ _ _ _ h hk hc hl hl2 H D)
  | point l k=>exact y_skim _ _ _ _ _ _ _ _ _ 1 (ih _ _ _ _ _ _ _ _ _ _ _ _ h hk hc hl hl2 H D)
  | ask k =>
   have z:=ih _ _ _ _ _ _ _ _ _ _ _ _ h hk hc hl hl2 H D
   rw [hst] at z
   exact y_skim _ _ _ _ _ _ _ _ _ 1 z
  | load a q k =>
   rcases pN P H with ⟨_,H⟩ | ⟨j,_,H⟩
   · obtain ⟨x,hx,H⟩:=pO P bad H
     exact y_load _ _ _ _ _ _ _ _ _ _ _ _ _ _ _ _ (D.look hx) (ih _ _ _ _ _ _ _ _ _ _ _ _ h hk hc hl hl2 H D)
   · obtain ⟨x,hx,H⟩:=pO P bad H
     have ea:a=E.ad j:=K.ob H
     exact y_load _ _ _ _ _ _ _ _ _ _ _ _ _ _ _ _ (by rw [ea]; exact (D.own j x hx).2) (ih _ _ _ _ _ _ _ _ _ _ _ _ h hk hc hl hl2 H D)
  | update a q f k =>
   rcases pN P H with ⟨_,H⟩ | ⟨j,_,H⟩
   · exact (bad H).elim
   · obtain ⟨x,hx,H⟩:=pO P bad H
     obtain ⟨hf,H⟩:=pF P bad H
     have ea:a=E.ad j:=K.ob H
     obtain ⟨hx',D'⟩:=D.update hx hf
     rw [← ea] at hx' D'
     exact wpOwn_bind (m:=updatePart a q f) (f:=k) (wpOwn_of_wpAny (wpAny_updatePart hx' (ih _ _ _ _ _ _ _ _ _ _ _ _ _ hk hc hl hl2 H D')))
  | alloc x k =>
   obtain ⟨hf,H⟩:=pF P bad H
   obtain ⟨x',hx,H⟩:=pO P bad H
   obtain ⟨ea,D'⟩:=D.alloc hf (by rw [hx]; rfl)
   have z:=ih _ _ _ _ _ _ _ _ _ _ _ _ _ hk hc hl hl2 H D'
   exact wpOwn_bind (m:=PySem.alloc x) (f:=k) (wpOwn_of_wpAny (wpAny_alloc (by
    show wpOwn _ _ _ (k h.objs.size) _ _ _
    rw [← ea]; exact z)))
  | fresh k=>exact y_fresh _ _ _ _ _ _ _ _ _ _ _ _ _ (ih _ _ _ _ _ _ _ _ _ _ _ _ h hk hc hl hl2 H D)
  | handled own k =>
   obtain ⟨rfl,H⟩:=pF P bad H
   have z:=ih _ _ _ _ _ _ _ _ _ _ _ _ h hk hc hl hl2 H D
   rw [← hh] at z
   exact y_handled _ _ _ _ _ _ _ _ _ z
  | newGen c' k =>
   have z:=ih _ _ _ _ _ _ _ _ _ _ _ _ h hk hc hl hl2 H D
   refine y_newGen _ _ _ _ _ _ _ _ _ _ _ _ _ _ ?_
   have e1:(G++(List.map GenState.fresh gs).toArray).size=E.g0 + gs.length:=by simp [hg]
   have e2:(G++(List.map GenState.fresh gs).toArray).push (.fresh c')=G++(List.map GenState.fresh (gs++[c'])).toArray:=by
    apply Array.ext'
    simp
   rw [e1,e2]
   exact z
  | call c' hd' gd lv k =>
   cases hd' with
   | some v=>exact (bad H).elim
   | none =>
    obtain ⟨hcl,H1⟩:=pF P bad (show P (bO _ _ _) from H)
    clear H
    obtain ⟨h0,H2⟩:=pF P bad H1
    clear H1
    subst h0
    obtain ⟨hb,H⟩:=pT P bad H2
    clear H2
    have hcl':c'.isCaller=false:=by rw [callerF_eq]; exact hcl
    have hk':(Kn.cons c k κ).okc:=⟨hc,hk⟩
    have hl':(Kn.cons c k κ).len≤d + 1:=Nat.succ_le_succ hl
    have hl2':(Kn.cons c k κ).len≤42:=Nat.succ_le_succ (Nat.le_trans hl (Nat.le_trans (Nat.le_of_ble_eq_true hb) (by decide)))
    have hdep':(arK A (.cons c k κ)).depth≤A.depth + 210:=Nat.le_trans (arK_depth A (.cons c k κ) hk') (Nat.add_le_add_left (Nat.mul_le_mul_left 5 hl2') _)
    have hh':(arK A (.cons c k κ)).handled=none:=by rw [arK_handled]; exact hA
    refine y_call _ _ _ _ _ _ _ _ _ _ _ _ _ (fun e=>nso e) ?_
    rw [mark_none]
    show codeAny (model prog w) (arK A (.cons c k κ)) c' (RK prog w A R (.cons c k κ)) _
    rcases pN P H with ⟨_,H⟩ | ⟨q,_,H⟩
    · exact plain (ih _ _ _ _ _ _ _ _ _ _ _ _ h hk' hcl' hl' hl2' H D)
    · rcases pN P H with ⟨_,H⟩ | ⟨q,_,H⟩
      · exact K.good _ H hk hc hl hl2 h D
      · rcases pN P H with ⟨_,H⟩ | ⟨q,_,H⟩
        · obtain ⟨⟨a,args⟩,hr,H⟩:=pO P bad H
          obtain ⟨⟨fd,body⟩,hp,H⟩:=pO P bad H
          obtain rfl:=callR_some hr
          obtain ⟨x,cc,oc,vs,q,tk,e1,e2,e3,e4,e5,e6,e7,e8,e9,e10⟩:=defAt_spec hp
          exact call_own (by exact om265 hd hdep') (D.look e1) e2 e4 e5 e3 ⟨cc,oc,vs,tk,e6,D.look e7,e8,by rw [e9,e10]⟩ (ih _ _ _ _ _ _ _ _ _ _ _ _ h hk' hcl' hl' hl2' H D)
        · obtain ⟨p,hs,H⟩:=pO P bad H
          exact hsp q c' p.1 p.2 hs (K.op H) _ _ _ hh' hdep' D.base (ih _ _ _ _ _ _ _ _ _ _ _ _ h hk' hcl' hl' hl2' H D)
  | _=>exact (bad H).elim
theorem good_bad {r:Rs} (h:Good prog w A R E h₀ G dr os r):¬ r.isBad:=by
 cases r <;> first | exact h.elim | exact id
theorem sound (hst:E.st=⟨prog,w.params⟩) (hg:E.g0=G.size) (hA:A.handled=none) (hd:A.depth + 210<recursionLimit) (hsp:SpOk prog w E.sp (A.depth + 210) E.kt) (hlim:∀ h,E.kt.Holds h 1 0->h.NoLimit)
 (n b c t κ d T m i gs o ob op h) (hk:κ.okc) (hc:c.isCaller=false) (hl:κ.len≤d) (hl2:κ.len≤42) (hob:∀ p∈(run E n b c t κ d T m i gs o ob op).ob,p.1=p.2) (hop:∀ p∈(run E n b c t κ d T m i gs o ob op).op,p)
 (hgood:Good prog w A R E h₀ G dr os (run E n b c t κ d T m i gs o ob op)) (D:Rep E.kt E.ad h₀ h T m):Means prog w A R b c t κ (sh E G dr os h i gs) :=
 sound_P (P:=fun r=>(∀ p∈r.ob,p.1=p.2)∧(∀ p∈r.op,p)∧Good prog w A R E h₀ G dr os r) ⟨fun _ h=>h.2.2,fun h=>(run_mono ..).elim (fun z=>(good_bad h.2.2 z).elim) fun z=>h.1 _ (z.1 _ (List.mem_cons_self ..)),fun h=>(run_mono ..).elim (fun z=>(good_bad h.2.2 z).elim) fun z=>h.2.1 _ (z.2 _ (List.mem_cons_self ..))⟩
  hst hg hA hd hsp hlim n b c t κ d T m i gs o ob op h hk hc hl hl2 ⟨hob,hop,hgood⟩ D
end
end
section
noncomputable def Rs.l1 (rs:Rs):List Nat:=rs.ob.map Prod.fst
universe u
noncomputable abbrev Seen (X:Type u):=Option (X×List Prop×List Nat×List Nat)
noncomputable def Rs.dn {X:Type u} (rs:Rs) (f:Result->BT->Nat->List Code->X):Seen X:=match rs with
 | .done r T m _ gs ob op=>some (f r T m gs,op,ob.map Prod.fst,ob.map Prod.snd)
 | _=>none
noncomputable def Rs.stp {X:Type u} (rs:Rs) (f:Code->BT->Nat->List Code->X):Seen X:=match rs with
 | .stop c' _ _ _ _ T m _ gs ob op=>some (f c' T m gs,op,ob.map Prod.fst,ob.map Prod.snd)
 | _=>none
noncomputable def Rs.agn {X:Type u} (rs:Rs) (f:Code->BT->Nat->List Code->X):Seen X:=match rs with
 | .again c' _ _ T m _ gs ob op=>some (f c' T m gs,op,ob.map Prod.fst,ob.map Prod.snd)
 | _=>none
noncomputable def Rs.sc (rs:Rs):Code:=match rs with
 | .stop _ c _ _ _ _ _ _ _ _ _=>c
 | _=>default
noncomputable def Rs.sk (rs:Rs):Result->Sem Fin:=match rs with
 | .stop _ _ k _ _ _ _ _ _ _ _=>k
 | _=>fun _=>.unsupported ""
noncomputable def Rs.sκ (rs:Rs):Kn:=match rs with
 | .stop _ _ _ κ _ _ _ _ _ _ _=>κ
 | .again _ κ _ _ _ _ _ _ _=>κ
 | _=>.nil
noncomputable def Rs.sd (rs:Rs):Nat:=match rs with
 | .stop _ _ _ _ d _ _ _ _ _ _=>d
 | .again _ _ d _ _ _ _ _ _=>d
 | _=>0
noncomputable def Rs.sT (rs:Rs):BT:=match rs with
 | .stop _ _ _ _ _ T _ _ _ _ _=>T
 | .again _ _ _ T _ _ _ _ _=>T
 | .done _ T _ _ _ _ _=>T
 | _=>.nil
theorem eq_all {α β:Type} {f g:α->β}:∀ {l:List α},l.map f=l.map g->∀ x∈l,f x=g x
 | [],_,_,h=>nomatch h
 | y::l,e,x,h=>by
  rw [List.map_cons,List.map_cons] at e
  injection e with e1 e2
  rcases List.mem_cons.mp h with rfl | h
  · exact e1
  · exact eq_all e2 x h
structure Ctxt (prog:Program) (w:World) (A:Around) (E:En) (G:Array GenState):Prop where
 st:E.st=⟨prog,w.params⟩
 g0:E.g0=G.size
 hA:A.handled=none
 hd:A.depth + 210<recursionLimit
 sp:SpOk prog w E.sp (A.depth + 210) E.kt
 lim:∀ h,E.kt.Holds h 1 0->h.NoLimit
section
variable {prog:Program} {w:World} {A:Around} {R:Result->Shared->Prop} {E:En} {h₀ h:Heap} {G:Array GenState} {dr:Drawn} {os:OsState}
variable {n:Nat} {b:Bool} {c:Code} {t:Sem Fin} {κ:Kn} {d:Nat} {T:BT} {m o:Nat} {X:Type u} {x:X} {ops:List Prop}
theorem sound_dn (C:Ctxt prog w A E G) (hk:κ.okc) (hc:c.isCaller=false) (hl:κ.len≤d) (hl2:κ.len≤42) (D:Rep E.kt E.ad h₀ h T m)
 (f:Result->BT->Nat->List Code->X) (e:(run E n b c t κ d T m 0 [] o [] []).dn f=some (x,ops,(run E n b c t κ d T m 0 [] o [] []).l1,(run E n b c t κ d T m 0 [] o [] []).l1)) (hop:∀ p∈ops,p)
 (hR:∀ h' r T' m' i gs,f r T' m' gs=x->Rep E.kt E.ad h₀ h' T' m'->R r (sh E G dr os h' i gs)):Means prog w A R b c t κ (sh E G dr os h 0 []):=by
 have S:=fun hob hop hgood=>sound (R:=R) (h₀:=h₀) (dr:=dr) (os:=os) C.st C.g0 C.hA C.hd C.sp C.lim n b c t κ d T m 0 [] o [] [] h hk hc hl hl2 hob hop hgood D
 revert e S
 generalize run E n b c t κ d T m 0 [] o [] []=rs
 intro e S
 cases rs with
 | done r T' m' i gs ob op =>
  simp only [Rs.dn,Option.some.injEq,Prod.mk.injEq] at e
  obtain ⟨e1,e2,e3,e4⟩:=e
  subst e2
  exact S (fun p hp=>eq_all (show ob.map Prod.fst=ob.map Prod.snd from e4.symm) p hp) hop fun h' D'=>hR h' r T' m' i gs e1 D'
 | _=>cases e
theorem sound_stp (C:Ctxt prog w A E G) (hk:κ.okc) (hc:c.isCaller=false) (hl:κ.len≤d) (hl2:κ.len≤42) (D:Rep E.kt E.ad h₀ h T m)
 (f:Code->BT->Nat->List Code->X) (e:(run E n b c t κ d T m 0 [] o [] []).stp f=some (x,ops,(run E n b c t κ d T m 0 [] o [] []).l1,(run E n b c t κ d T m 0 [] o [] []).l1)) (hop:∀ p∈ops,p)
 (hR:∀ h' c' m' i gs,f c' (run E n b c t κ d T m 0 [] o [] []).sT m' gs=x->Rep E.kt E.ad h₀ h' (run E n b c t κ d T m 0 [] o [] []).sT m' →
  (run E n b c t κ d T m 0 [] o [] []).sκ.okc->(run E n b c t κ d T m 0 [] o [] []).sc.isCaller=false->(run E n b c t κ d T m 0 [] o [] []).sκ.len≤(run E n b c t κ d T m 0 [] o [] []).sd->(run E n b c t κ d T m 0 [] o [] []).sκ.len≤42 →
  codeAny (model prog w) (arK A (.cons (run E n b c t κ d T m 0 [] o [] []).sc (run E n b c t κ d T m 0 [] o [] []).sk (run E n b c t κ d T m 0 [] o [] []).sκ)) c'
   (fun r s'=>Means prog w A R false (run E n b c t κ d T m 0 [] o [] []).sc ((run E n b c t κ d T m 0 [] o [] []).sk r) (run E n b c t κ d T m 0 [] o [] []).sκ s') (sh E G dr os h' i gs)) :
 Means prog w A R b c t κ (sh E G dr os h 0 []):=by
 have S:=fun hob hop hgood=>sound (R:=R) (h₀:=h₀) (dr:=dr) (os:=os) C.st C.g0 C.hA C.hd C.sp C.lim n b c t κ d T m 0 [] o [] [] h hk hc hl hl2 hob hop hgood D
 revert e S hR
 generalize run E n b c t κ d T m 0 [] o [] []=rs
 intro e hR S
 cases rs with
 | stop c' c₁ k κ' d' T' m' i gs ob op =>
  simp only [Rs.stp,Option.some.injEq,Prod.mk.injEq] at e
  obtain ⟨e1,e2,e3,e4⟩:=e
  subst e2
  exact S (fun p hp=>eq_all (show ob.map Prod.fst=ob.map Prod.snd from e4.symm) p hp) hop fun q1 q2 q3 q4 h' D'=>hR h' c' m' i gs e1 D' q1 q2 q3 q4
 | _=>cases e
theorem sound_agn (C:Ctxt prog w A E G) (hk:κ.okc) (hc:c.isCaller=false) (hl:κ.len≤d) (hl2:κ.len≤42) (D:Rep E.kt E.ad h₀ h T m)
 (f:Code->BT->Nat->List Code->X) (e:(run E n b c t κ d T m 0 [] o [] []).agn f=some (x,ops,(run E n b c t κ d T m 0 [] o [] []).l1,(run E n b c t κ d T m 0 [] o [] []).l1)) (hop:∀ p∈ops,p)
 (hR:∀ h' c' m' i gs,f c' (run E n b c t κ d T m 0 [] o [] []).sT m' gs=x->Rep E.kt E.ad h₀ h' (run E n b c t κ d T m 0 [] o [] []).sT m' →
  (run E n b c t κ d T m 0 [] o [] []).sκ.okc->(run E n b c t κ d T m 0 [] o [] []).sκ.len≤(run E n b c t κ d T m 0 [] o [] []).sd->(run E n b c t κ d T m 0 [] o [] []).sκ.len≤42 →
  codeAny (model prog w) (arK A (run E n b c t κ d T m 0 [] o [] []).sκ) c' (RK prog w A R (run E n b c t κ d T m 0 [] o [] []).sκ) (sh E G dr os h' i gs)) :
 Means prog w A R b c t κ (sh E G dr os h 0 []):=by
 have S:=fun hob hop hgood=>sound (R:=R) (h₀:=h₀) (dr:=dr) (os:=os) C.st C.g0 C.hA C.hd C.sp C.lim n b c t κ d T m 0 [] o [] [] h hk hc hl hl2 hob hop hgood D
 revert e S hR
 generalize run E n b c t κ d T m 0 [] o [] []=rs
 intro e hR S
 cases rs with
 | again c' κ' d' T' m' i gs ob op =>
  simp only [Rs.agn,Option.some.injEq,Prod.mk.injEq] at e
  obtain ⟨e1,e2,e3,e4⟩:=e
  subst e2
  exact S (fun p hp=>eq_all (show ob.map Prod.fst=ob.map Prod.snd from e4.symm) p hp) hop fun q1 q3 q4 h' D'=>hR h' c' m' i gs e1 D' q1 q3 q4
 | _=>cases e
noncomputable def defD (kt:KT) (a:Addr):FuncData×List Stmt:=match defAt kt a with
 | some p=>p
 | none=>default
theorem call_of (C:Ctxt prog w A E G) {a:Addr} {args:Args} {s:Shared} (hb:E.kt.Holds s.heap 1 0) (hp:(defAt E.kt a).isSome=true)
 (x:Means prog w A R true (.call (.ref a) args) (callF a args (defD E.kt a)) .nil s):codeAny (model prog w) A (.call (.ref a) args) R s:=by
 obtain ⟨p,hp⟩:=Option.isSome_iff_exists.mp hp
 obtain ⟨fd,body⟩:=p
 have e:defD E.kt a=(fd,body):=by unfold defD; rw [hp]
 rw [e] at x
 obtain ⟨ob,cc,oc,vs,q,tk,e1,e2,e3,e4,e5,e6,e7,e8,e9,e10⟩:=defAt_spec hp
 have look:∀ {a:Addr} {x:Obj},E.kt.get a=some x->s.heap.get? a=some x:=fun {a x} e=>by
  have z:=KT.Holds.get hb e
  rw [Nat.one_mul,Nat.add_zero] at z
  exact z
 exact call_own (by have:=C.hd; exact om277 this) (look e1) e2 e4 e5 e3 ⟨cc,oc,vs,tk,e6,look e7,e8,by rw [e9,e10]⟩ x
end
noncomputable def wB (w:World) (b1 b2:Bool):World:={ w with params:={ w.params with followText:=fun r=>cond (Nat.beq (PySem.W.S.codeS r) (PySem.W.S.codeS "special-get-raises")) b1 (cond (Nat.beq (PySem.W.S.codeS r) (PySem.W.S.codeS "comprehension-iter-twice")) b2 (w.params.followText r)) } }
theorem codeS_inj {a b:String} (h:Nat.beq (PySem.W.S.codeS a) (PySem.W.S.codeS b)=true):a=b :=
 PySem.code_inj _ _ (by rw [PySem.W.S.code_S,PySem.W.S.code_S]; exact Nat.eq_of_beq_eq_true h)
theorem wB_eq (w:World):w=wB w (w.params.followText "special-get-raises") (w.params.followText "comprehension-iter-twice"):=by
 have e:(fun r=>cond (Nat.beq (PySem.W.S.codeS r) (PySem.W.S.codeS "special-get-raises")) (w.params.followText "special-get-raises") (cond (Nat.beq (PySem.W.S.codeS r) (PySem.W.S.codeS "comprehension-iter-twice")) (w.params.followText "comprehension-iter-twice") (w.params.followText r)))=w.params.followText:=by
  funext r
  cases h1:Nat.beq (PySem.W.S.codeS r) (PySem.W.S.codeS "special-get-raises") with
  | true=>rw [codeS_inj h1]; rfl
  | false =>
   cases h2:Nat.beq (PySem.W.S.codeS r) (PySem.W.S.codeS "comprehension-iter-twice") with
   | true=>rw [codeS_inj h2]; rfl
   | false=>rfl
 show w = { w with params:={ w.params with followText:=_ } }
 rw [e]
end
section
noncomputable def Imp {α:Type} (M:Model) (A:Around) (c:Code) (t t':Sem α):Prop :=
 ∀ (Γ:PySem.Ctx) (Q:α->Pos->Shared->Prop) (E:Value->Pos->Shared->Prop) (p:Pos) (s:Shared),Γ.code=c->Γ.Below A->Sem.wp M Γ t Q E p s->Sem.wp M Γ t' Q E p s
section
variable {α β:Type} {M:Model} {A:Around} {c:Code}
theorem Imp.refl (t:Sem α):Imp M A c t t:=fun _ _ _ _ _ _ _ h=>h
theorem Imp.bind {m m':Sem α} {f f':α->Sem β} (h:Imp M A c m m') (k:∀ a,Imp M A c (f a) (f' a)):Imp M A c (m >>= f) (m' >>= f'):=fun Γ Q E p s hc hΓ x=>by
 rw [Sem.wp_bind'] at x ⊢
 exact Sem.wp_mono M Γ m' (fun a p' s' y=>k a Γ Q E p' s' hc hΓ y) (fun _ _ _ y=>y) p s (h Γ _ _ p s hc hΓ x)
end
theorem noComps {M:Model} {A:Around} {body:List Stmt} {env:Env}:Imp M A (.func body env) (pure []) comprehensionsAround:=fun Γ Q E p s hc hΓ x=>by
 have x':Q [] p s:=x
 have st:∀ Q':List (Code×Pos)->Pos->Shared->Prop,Q' ((Γ.code,p)::Γ.below) p s->Sem.wp M Γ stack Q' E p s:=fun _ h=>h
 unfold comprehensionsAround callersCodes
 rw [Sem.wp_bind',Sem.wp_bind']
 refine st _ ?_
 rw [hc]
 dsimp only
 split
 · rename_i hh
   exact absurd (show (some env.frame != some env.frame)=true from hh) (by simp)
 · exact x'
noncomputable def supG:{ G:Sem (List Env)->Expr->Str->Env->Sem Value->Sem Value // attributeBase=G comprehensionsAround ∧
 ∀ (M:Model) (A:Around) (c:Code) (x y:Sem (List Env)) (o:Expr) (attr:Str) (env:Env) (whole:Sem Value),Imp M A c x y->Imp M A c (G x o attr env whole) (G y o attr env whole) }:=by
 refine ⟨?G,?h,?k⟩
 case h =>
  unfold attributeBase
  have q1:(Str.ofString "super":Str)=⟨⟨[115,117,112,101,114]⟩⟩:=by decide +kernel
  have q2:(Str.ofString "__class__":Str)=⟨⟨[95,95,99,108,97,115,115,95,95]⟩⟩:=by decide +kernel
  simp only [q1,q2,PySem.W.Fast.te4777696345729990297,PySem.W.Fast.te8468629109055619292,PySem.W.Fast.te10380811246957099773,PySem.W.Fast.te11478286150595567475,PySem.W.Fast.te17359229931016689406,PySem.W.Fast.te16755525298939948312,PySem.W.Fast.te6609576154772507232,PySem.W.Fast.te8406491124035677375]
  generalize comprehensionsAround=f
  exact rfl
 case k =>
  intro M A c x y o attr env whole h
  show Imp M A c _ _
  split
  · try dsimp only
    repeat' (first | with_reducible exact Imp.refl _ | with_reducible exact h | with_reducible refine Imp.bind ?_ (fun _=>?_) | split)
  · with_reducible exact Imp.refl _
section
variable {α β:Type} {M:Model} {A:Around} {c:Code}
theorem Imp.onRaise {m m':Sem α} {k:Value->Sem Unit} (h:Imp M A c m m'):Imp M A c (m.onRaise k) (m'.onRaise k):=fun Γ Q E p s hc hΓ x=>by
 rw [Sem.wp_onRaise] at x ⊢
 exact h Γ _ _ p s hc hΓ x
end
noncomputable def exprG:{ G:Sem Value->Expr->Str->Pos->Pos->Pos->Env->Sem Flow // (∀ o attr apos pos rp env,exec (.Expr (.Call (.Attribute o attr apos) [] [] pos) rp) env=G (attributeBase o attr env (eval o env)) o attr apos pos rp env) ∧
 ∀ M A c x y o attr apos pos rp env,Imp M A c x y->Imp M A c (G x o attr apos pos rp env) (G y o attr apos pos rp env) }:=by
 refine ⟨?G,?h,?k⟩
 case h =>
  intro o attr apos pos rp env
  rw [arm_exec_Expr]
  simp only [arm_eval_Call,PySem.W.Fast.te13401596951702201221,PySem.W.Fast.te12372662630863984472,PySem.W.Fast.te17223243974762974889,PySem.W.Fast.te15112477048112897374]
  generalize attributeBase o attr env (eval o env)=x
  exact rfl
 case k =>
  intro M A c x y o attr apos pos rp env h
  try dsimp only
  repeat' (first | with_reducible exact Imp.refl _ | with_reducible exact h | with_reducible refine Imp.bind ?_ (fun _=>?_) | split | unfold printExpr)
noncomputable def retG:{ G:Sem Value->Expr->Str->Pos->Pos->Pos->Env->Sem Flow // (∀ o attr apos pos rp env,exec (.Return (some (.Call (.Attribute o attr apos) [] [] pos)) rp) env=G (attributeBase o attr env (eval o env)) o attr apos pos rp env) ∧
 ∀ M A c x y o attr apos pos rp env,Imp M A c x y->Imp M A c (G x o attr apos pos rp env) (G y o attr apos pos rp env) }:=by
 refine ⟨?G,?h,?k⟩
 case h =>
  intro o attr apos pos rp env
  have e1:evalOpt (some (.Call (.Attribute o attr apos) [] [] pos)) env=some (eval (.Call (.Attribute o attr apos) [] [] pos) env):=rfl
  rw [arm_exec_Return]
  simp only [e1,arm_eval_Call,PySem.W.Fast.te13401596951702201221]
  generalize attributeBase o attr env (eval o env)=x
  exact rfl
 case k =>
  intro M A c x y o attr apos pos rp env h
  try dsimp only
  repeat' (first | with_reducible exact Imp.refl _ | with_reducible exact h | with_reducible refine Imp.bind ?_ (fun _=>?_) | split)
noncomputable def func1G:{ G:Sem Flow->Env->Sem Fin // (∀ last env,denote table (.func [last] env)=G (exec last env) env) ∧
 ∀ M A c x y env,Imp M A c x y->Imp M A c (G x env) (G y env) }:=by
 refine ⟨?G,?h,?k⟩
 case h =>
  intro last env
  delta denote
  dsimp only
  unfold execs
  unfold execs
  generalize exec last env=x
  exact rfl
 case k =>
  intro M A c x y env h
  try dsimp only
  repeat' (first | with_reducible exact Imp.refl _ | with_reducible exact h | with_reducible refine Imp.bind ?_ (fun _=>?_) | with_reducible refine Imp.onRaise ?_ | split)
noncomputable def func2G:{ G:Sem Flow->Sem Flow->Env->Sem Fin // (∀ st last env,denote table (.func [st,last] env)=G (exec st env) (exec last env) env) ∧
 ∀ M A c z z' x y env,Imp M A c z z'->Imp M A c x y->Imp M A c (G z x env) (G z' y env) }:=by
 refine ⟨?G,?h,?k⟩
 case h =>
  intro st last env
  delta denote
  dsimp only
  unfold execs
  unfold execs
  unfold execs
  generalize exec last env=x
  generalize exec st env=z
  exact rfl
 case k =>
  intro M A c z z' x y env h' h
  try dsimp only
  repeat' (first | with_reducible exact Imp.refl _ | with_reducible exact h | with_reducible exact h' | with_reducible refine Imp.bind ?_ (fun _=>?_) | with_reducible refine Imp.onRaise ?_ | split)
theorem exec_one (M:Model) (A:Around) (c:Code) (st:Stmt) (env:Env):Imp M A c (execs [st] env) (exec st env):=fun Γ Q E p s _ _ x=>by
 have e:execs [st] env=(exec st env >>= fun f=>match f with | .next=>pure .next | f=>pure f):=rfl
 rw [e,Sem.wp_bind'] at x
 refine Sem.wp_mono M Γ _ (fun f p' s' h=>?_) (fun _ _ _ h=>h) p s x
 cases f <;> exact h
end
noncomputable abbrev PickT:=(c:Prop)->[h:Decidable c]->Value->Value->Value
noncomputable def sgaG:{ G:PickT->(Value->Nat->Sem Value)->Args->Sem Fin // PySem.W.Fast.tw1054471737866971170=G (fun c _ t e=>@ite Value c _ t e) PySem.W.Fast.tw6609576154772507232 }:=by
 refine ⟨?G,?h⟩
 case h =>
  unfold PySem.W.Fast.tw1054471737866971170
  have:@ite Value=(fun c _ t e=>@ite Value c _ t e:PickT):=rfl
  rw [this]
  generalize (fun c _ t e=>@ite Value c _ t e:PickT)=F
  generalize PySem.W.Fast.tw6609576154772507232=fld
  exact rfl
noncomputable def pick3 (a b c:Value):Nat->Value
 | 0=>a
 | 1=>b
 | _=>c
theorem sga_fld (F:PickT) (fld:Value->Nat->Sem Value) (so:Addr) (name:Str) (t:Tok):sgaG.1 F fld ⟨[.ref so,.str name t],[]⟩ =
 (PySem.W.R.bindR (fld (.ref so) 0) fun cls=>PySem.W.R.bindR (fld (.ref so) 1) fun obj=>PySem.W.R.bindR (fld (.ref so) 2) fun start=>sgaG.1 F (fun _ i=>pure (pick3 cls obj start i)) ⟨[.ref so,.str name t],[]⟩):=by
 kernel_rfl
noncomputable abbrev isCond (x y:Value):Prop:=@BEq.beq Value (@instBEqOfDecidableEq Value PySem.W.Fast.tw7966671052430208091) x y=true
theorem sga_pick (F:PickT) (so:Addr) (name:Str) (t:Tok) (cls:Value) (x y:Addr):sgaG.1 F (fun _ i=>pure (pick3 cls (.ref x) (.ref y) i)) ⟨[.ref so,.str name t],[]⟩ =
 sgaG.1 (fun _ _ _ _=>F (isCond (.ref x) (.ref y)) .none (.ref x)) (fun _ i=>pure (pick3 cls (.ref x) (.ref y) i)) ⟨[.ref so,.str name t],[]⟩:=by
 kernel_rfl
noncomputable def sgaT (so:Addr) (name:Str) (t:Tok):Sem Fin:=.load so none fun os=>match os.data with
 | .fields vs=>match xl3 some xvr xvr vs.toList with
  | some (cls,x,y)=>.load x none fun ox=>match ox.data with
   | .seq _ _=>.load y none fun oy=>match oy.data with
    | .cls _=>sgaG.1 (fun _ _ _ e=>e) (fun _ i=>pure (pick3 cls (.ref x) (.ref y) i)) ⟨[.ref so,.str name t],[]⟩
    | _=>.unsupported ""
   | _=>.unsupported ""
  | none=>.unsupported ""
 | _=>.unsupported ""
theorem sgaT_wp {M:Model} {Γ:PySem.Ctx} {so:Addr} {name:Str} {t:Tok} {Q:Fin->Pos->Shared->Prop} {E:Value->Pos->Shared->Prop} {p:Pos} {s:Shared} (h:Sem.wp M Γ (sgaT so name t) Q E p s) :
 ∃ o vs cls x y,s.heap.get? so=some o∧o.data = .fields vs∧vs.toList=[cls,.ref x,.ref y]∧x ≠ y ∧
  Sem.wp M Γ (sgaG.1 (fun _ _ _ e=>e) (fun _ i=>pure (pick3 cls (.ref x) (.ref y) i)) ⟨[.ref so,.str name t],[]⟩) Q E p s:=by
 unfold sgaT at h
 rw [Sem.wp_load] at h
 obtain ⟨o,ho,h⟩:=h
 split at h
 · rename_i vs hd
   split at h
   · rename_i cls x y hv
     replace hv:=v3_some hv
     rw [Sem.wp_load] at h
     obtain ⟨ox,hx,h⟩:=h
     split at h
     · rename_i xs n hxd
       rw [Sem.wp_load] at h
       obtain ⟨oy,hy,h⟩:=h
       split at h
       · rename_i cd hyd
         refine ⟨o,vs,cls,x,y,ho,hd,hv,?_,h⟩
         rintro rfl
         rw [hx] at hy
         cases hy
         rw [hxd] at hyd
         cases hyd
       · rw [Sem.wp_unsupported] at h; exact h.elim
     · rw [Sem.wp_unsupported] at h; exact h.elim
   · rw [Sem.wp_unsupported] at h; exact h.elim
 · rw [Sem.wp_unsupported] at h; exact h.elim
theorem vs_at {vs:Array Value} {l:List Value} (h:vs.toList=l) (i:Nat):vs[i]? = l[i]?:=by rw [← h]; simp
theorem sga_own {M:Model} {A:Around} {c:Code} {so:Addr} {name:Str} {t:Tok} {Q:Fin->Shared->Prop} {E:Value->Shared->Prop} {s:Shared}
 (h:wpOwn M A c (sgaT so name t) Q E s) (w:∃ Γ:PySem.Ctx,Γ.code=c∧Γ.Below A):wpOwn M A c (Builtin.«super.__getattribute__» ⟨[.ref so,.str name t],[]⟩) Q E s:=by
 obtain ⟨Γ0,hc0,hΓ0⟩:=w
 obtain ⟨o,vs,cls,x,y,ho,hd,hv,hxy,_⟩:=sgaT_wp (h Γ0 default hc0 hΓ0)
 have e:=congrFun (PySem.W.Fast.te1054471737866971170.trans sgaG.2) ⟨[.ref so,.str name t],[]⟩
 rw [sga_fld] at e
 rw [e]
 have key:∀ fld:Value->Nat->Sem Value,fld=field->wpOwn M A c (PySem.W.R.bindR (fld (.ref so) 0) fun cls=>PySem.W.R.bindR (fld (.ref so) 1) fun obj=>PySem.W.R.bindR (fld (.ref so) 2) fun start =>
  sgaG.1 (fun c _ t e=>@ite Value c _ t e) (fun _ i=>pure (pick3 cls obj start i)) ⟨[.ref so,.str name t],[]⟩) Q E s:=?_
 · exact key _ PySem.W.Fast.te6609576154772507232.symm
 rintro fld rfl
 rw [← PySem.W.R.bindR_eq]
 have f0:vs[0]? = some cls:=by rw [vs_at hv]; rfl
 have f1:vs[1]? = some (.ref x):=by rw [vs_at hv]; rfl
 have f2:vs[2]? = some (.ref y):=by rw [vs_at hv]; rfl
 refine wpOwn_bind (wpOwn_of_wpAny (wpAny_field ho hd f0 ?_))
 refine wpOwn_bind (wpOwn_of_wpAny (wpAny_field ho hd f1 ?_))
 refine wpOwn_bind (wpOwn_of_wpAny (wpAny_field ho hd f2 ?_))
 intro Γ p hc hΓ
 obtain ⟨o',vs',cls',x',y',ho',hd',hv',_,hw⟩:=sgaT_wp (h Γ p hc hΓ)
 rw [ho] at ho'; cases ho'
 rw [hd] at hd'; cases hd'
 rw [hv] at hv'
 simp only [List.cons.injEq,Value.ref.injEq,and_true] at hv'
 obtain ⟨rfl,rfl,rfl⟩:=hv'
 rw [sga_pick]
 have n:¬ isCond (.ref x) (.ref y):=by
  intro q
  have:=eq_of_beq q
  cases this
  exact hxy rfl
 simp only [if_neg n]
 exact hw
noncomputable def lnwG:{ G:Sem (List (Code×Pos))->Args->Sem Fin // PySem.W.Fast.tw17251484188601376105=G stack }:=by
 refine ⟨?G,?h⟩
 case h =>
  unfold PySem.W.Fast.tw17251484188601376105
  generalize stack=F
  exact rfl
theorem lnw_st (st:Sem (List (Code×Pos))) (args:Args):lnwG.1 st args=PySem.W.R.bindR st (fun acts=>lnwG.1 (pure acts) args):=by
 kernel_rfl
theorem lnw_hd (id:String) (a args:Args) (p:Pos) (below:List (Code×Pos)):lnwG.1 (pure ((.builtin id a,p)::below)) args=lnwG.1 (pure [(.builtin id a,default)]) args:=by
 kernel_rfl
theorem entry_lnw:entryFor table "list.__new__" = some Builtin.«list.__new__»:=entryFor_of_tree (by kernel_rfl)
theorem lnw_own {M:Model} {A:Around} {args:Args} {Q:Fin->Shared->Prop} {E:Value->Shared->Prop} {s:Shared}
 (h:wpOwn M A (.builtin "list.__new__" args) (lnwG.1 (pure [(.builtin "list.__new__" args,default)]) args) Q E s):wpOwn M A (.builtin "list.__new__" args) (Builtin.«list.__new__» args) Q E s:=by
 intro Γ p hc hΓ
 have e:=congrFun (PySem.W.Fast.te17251484188601376105.trans lnwG.2) args
 rw [e,lnw_st,← PySem.W.R.bindR_eq]
 have x:=h Γ p hc hΓ
 rw [← lnw_hd _ _ _ p Γ.below] at x
 show Sem.wp M Γ (stack >>= _) _ _ p s
 rw [Sem.wp_bind']
 show Sem.wp M Γ (lnwG.1 (pure ((Γ.code,p)::Γ.below)) args) _ _ p s
 rw [hc]
 exact x
section
noncomputable def ktDel:Nat->KT->Nat->KT
 | 0,t,_=>t
 | _ + 1,.nil,_=>.nil
 | n + 1,.node v l r,i=>match Nat.beq i 0 with
  | true=>.node none l r
  | false=>match Nat.beq (i % 2) 1 with
   | true=>.node v (ktDel n l (i / 2)) r
   | false=>.node v l (ktDel n r (i / 2 - 1))
theorem ktDel_holds {h:Heap}:∀ (n:Nat) {t:KT} {s b i:Nat},t.Holds h s b->(ktDel n t i).Holds h s b
 | 0,_,_,_,_,H=>H
 | _ + 1,.nil,_,_,_,_=>trivial
 | n + 1,.node v l r,s,b,i,H=>by
  unfold ktDel
  cases Nat.beq i 0 with
  | true=>exact ⟨fun _ e=>(nomatch e),H.2⟩
  | false=>cases Nat.beq (i % 2) 1 with
   | true=>exact ⟨H.1,ktDel_holds n H.2.1,H.2.2⟩
   | false=>exact ⟨H.1,H.2.1,ktDel_holds n H.2.2⟩
noncomputable def isId (id s:String):Bool:=Nat.beq (PySem.W.S.codeS id) (PySem.W.S.codeS s)
theorem isId_eq {a b:String} (h:isId a b=true):a=b:=codeS_inj h
structure Lt where
 fl:Nat->UInt64
 il:Nat->Int
 tk:Nat->Nat:=fun _=>0
 sl:Nat->Str:=fun _=>⟨⟨[]⟩⟩
noncomputable def Lt.zero:Lt:=⟨fun _=>0,fun _=>0,fun _=>0,fun _=>⟨⟨[]⟩⟩⟩
noncomputable def tI (i:Int):Sem Fin:=.fresh fun t=>.pure (.done (.ret (.int i t)))
noncomputable def tF (b:UInt64):Sem Fin:=.fresh fun t=>.pure (.done (.ret (.float b t)))
noncomputable def tS (x:Str):Sem Fin:=.fresh fun t=>.pure (.done (.ret (.str x t)))
noncomputable def tK (v:Value):Sem Fin:=.fresh fun _=>.pure (.done (.ret v))
noncomputable def tV (v:Value):Sem Fin:=.pure (.done (.ret v))
noncomputable def fOk:Nat->UInt64->UInt64->UInt64->Bool
 | 0,a,b,c=>Float64.add a b == c
 | 1,a,b,c=>Float64.sub a b == c
 | 2,a,b,c=>Float64.mul a b == c
 | 3,a,b,c=>!Float64.isZero b && Float64.div a b == c
 | 4,a,b,c=>!Float64.isZero b && (Float64.divmod a b).snd == c
 | _,_,_,_=>false
noncomputable def cVal:Nat->UInt64->UInt64->Bool
 | 0,a,b=>Float64.cmp a b == some Ordering.lt
 | 1,a,b=>Float64.cmp a b == some Ordering.lt || Float64.cmp a b == some Ordering.eq
 | 2,a,b=>Float64.cmp a b == some Ordering.gt
 | _,a,b=>Float64.cmp a b == some Ordering.eq
noncomputable def dOk (a b:Int) (c:UInt64):Bool:=!(b == 0) && (!Float64.isInf (Float64.ofFrac (decide (a<0) != decide (b<0)) a.natAbs b.natAbs) && Float64.ofFrac (decide (a<0) != decide (b<0)) a.natAbs b.natAbs == c)
noncomputable def rOk (a:UInt64) (b:Int) (c:UInt64):Bool:=!Float64.isInf (Float64.ofInt b) && Float64.mul (Float64.ofInt b) a == c
noncomputable def nOk (a:UInt64) (i:Int):Bool:=match Float64.decode a with
 | .fin s m e=>Float64.truncOf s m e == i
 | _=>false
noncomputable def sOk (x:Str) (i:Int) (y:Str):Prop:=(decide (i < -(2 ^ 63:Int)) || decide (i ≥ 2 ^ 63))=false∧∃ c,(seqIndex? i x.length).bind (x.cps[·]?)=some c∧y=⟨#[c]⟩
noncomputable def aOk (x y z:Str):Prop:=(x.length == 0)=false∧(y.length == 0)=false∧(x++y).length≤sizeLine∧z=x++y
noncomputable def dGet (kt:KT) (w:World) (d:Addr) (x:Str) (v:Value):Prop:=∃ o es ep,kt.get d=some o∧o.ExactDict∧o.data = .dict es ep∧KeysOf (strKind PySem.Challenge.pw_tr0064_01 w) es∧findBy (strKind PySem.Challenge.pw_tr0064_01 w).is es x=some v
noncomputable def fName (id:String):Nat:=match isId id "float.__add__" with
 | true=>0
 | false=>match isId id "float.__sub__" with
  | true=>1
  | false=>match isId id "float.__mul__" with
   | true=>2
   | false=>match isId id "float.__truediv__" with
    | true=>3
    | false=>match isId id "float.__mod__" with
     | true=>4
     | false=>5
noncomputable def cName (id:String):Nat:=match isId id "float.__lt__" with
 | true=>0
 | false=>match isId id "float.__le__" with
  | true=>1
  | false=>match isId id "float.__gt__" with
   | true=>2
   | false=>match isId id "float.__eq__" with
    | true=>3
    | false=>4
noncomputable def setG:{ G:(Value->Value->Bool)->Args->Sem Fin // PySem.W.Fast.tw9022537654139734821=G Builtin.List.listSameRef }:=by
 refine ⟨?G,?h⟩
 case h =>
  unfold PySem.W.Fast.tw9022537654139734821
  generalize Builtin.List.listSameRef=f
  exact rfl
theorem setG_args (f:Value->Value->Bool) (a q b:Addr):setG.1 f ⟨[.ref a,.ref q,.ref b],[]⟩=setG.1 (fun _ _=>f (.ref a) (.ref b)) ⟨[.ref a,.ref q,.ref b],[]⟩:=by
 kernel_rfl
theorem codeOwn_builtin {prog:Program} {w:World} {A:Around} {R:Result->Shared->Prop} {s:Shared} {id:String} {args:Args} {b:Builtin} (hb:entryFor table id=some b)
 (h:wpOwn (model prog w) A (.builtin id args) (b args) (postC prog w A R) (postE R) s):codeAny (model prog w) A (.builtin id args) R s:=by
 refine codeAny_of_own ?_
 show wpOwn _ _ _ (match entryFor table id with | some b=>b args | none=>unsupported ((withoutEnding? id "#data").getD id)) _ _ s
 rw [hb]; exact h
theorem setG_eq {a q b:Addr} (h:a ≠ b):Builtin.«list.__setitem__» ⟨[.ref a,.ref q,.ref b],[]⟩=setG.1 (fun _ _=>false) ⟨[.ref a,.ref q,.ref b],[]⟩:=by
 have f:Builtin.List.listSameRef (.ref a) (.ref b)=false:=by
  show (a == b)=false
  simpa using h
 have e:=(congrFun (PySem.W.Fast.te9022537654139734821.trans setG.2) ⟨[.ref a,.ref q,.ref b],[]⟩).trans (setG_args _ a q b)
 rw [f] at e
 exact e
theorem setSp {prog:Program} {w:World} {A:Around} {R:Result->Shared->Prop} {s:Shared} {a q b:Addr} (h:a ≠ b)
 (x:wpOwn (model prog w) A (.builtin "list.__setitem__" ⟨[.ref a,.ref q,.ref b],[]⟩) (setG.1 (fun _ _=>false) ⟨[.ref a,.ref q,.ref b],[]⟩) (postC prog w A R) (postE R) s) :
 codeAny (model prog w) A (.builtin "list.__setitem__" ⟨[.ref a,.ref q,.ref b],[]⟩) R s:=by
 rw [← setG_eq h] at x
 exact codeOwn_builtin F.entry_list_setitem x
theorem entry_sga:entryFor table "super.__getattribute__" = some Builtin.«super.__getattribute__»:=entryFor_of_tree (by kernel_rfl)
noncomputable def lastOf (s:Stmt):Option (Bool×Pos×Pos×Expr×Str×Pos) :=
 (tailE s).bind fun t=>(callE t.2.1).bind fun c=>cond c.2.1.isEmpty ((attrE c.1).map fun a=>(t.1,t.2.2,c.2.2,a)) none
noncomputable def lastS (x:Bool×Pos×Pos×Expr×Str×Pos):Stmt:=tailS (x.1,.Call (.Attribute x.2.2.2.1 x.2.2.2.2.1 x.2.2.2.2.2) [] [] x.2.2.1,x.2.1)
theorem lastOf_some {s:Stmt} {x:Bool×Pos×Pos×Expr×Str×Pos} (h:lastOf s=some x):s=lastS x:=by
 obtain ⟨⟨t1,t2,t3⟩,ht,h⟩:=bind_some h
 obtain ⟨⟨c1,c2,c3⟩,hc,h⟩:=bind_some h
 obtain ⟨h',h⟩:=cond_some h
 obtain ⟨a,ha,rfl⟩:=map_some' h
 obtain rfl:=List.isEmpty_iff.mp h'
 obtain rfl:=attrE_some ha
 obtain rfl:=callE_some hc
 exact tailE_some ht
noncomputable def spI2 (l:Lt) (q:Nat) (id:String) (a:Int) (y:Value):Option (Sem Fin×Prop):=match y with
 | .int b _=>cond (Nat.beq q 0) (cond (isId id "int.__mul__") (some (tI (a * b),IntMulOk a b)) none) (cond (isId id "int.__truediv__") (some (tF (l.fl q),dOk a b (l.fl q)=true)) none)
 | _=>none
noncomputable def spF2 (l:Lt) (q:Nat) (id:String) (a:UInt64) (y:Value):Option (Sem Fin×Prop):=match y with
 | .float b _=>cond (Nat.beq q 1) (some (tV (.bool true),cName id<4∧cVal (cName id) a b=true)) (cond (Nat.beq q 2) (some (tV (.bool false),cName id<4∧cVal (cName id) a b=false)) (some (tF (l.fl q),fOk (fName id) a b (l.fl q)=true)))
 | .int b _=>cond (isId id "float.__rmul__") (some (tF (l.fl q),rOk a b (l.fl q)=true)) none
 | _=>none
noncomputable def spR2 (l:Lt) (kt:KT) (w:World) (q:Nat) (id:String) (so:Addr) (y:Value):Option (Sem Fin×Prop):=match y with
 | .str name t=>cond (isId id "super.__getattribute__") (some (sgaT so name t,True)) (cond (isId id "dict.__getitem__") (some (tK (.int (l.il q) (l.tk q)),dGet kt w so name (.int (l.il q) (l.tk q)))) none)
 | _=>none
noncomputable def spS2 (l:Lt) (q:Nat) (id:String) (a:Str) (y:Value):Option (Sem Fin×Prop):=match y with
 | .int i _=>cond (isId id "str.__getitem__") (some (tS (l.sl q),sOk a i (l.sl q))) none
 | .str b _=>cond (isId id "str.__add__") (some (tS (l.sl q),aOk a b (l.sl q))) none
 | _=>none
noncomputable def sp2 (l:Lt) (kt:KT) (w:World) (q:Nat) (id:String) (x y:Value):Option (Sem Fin×Prop):=match x with
 | .int a _=>spI2 l q id a y
 | .float a _=>spF2 l q id a y
 | .ref so=>spR2 l kt w q id so y
 | .str a _=>spS2 l q id a y
 | _=>none
noncomputable def sp1 (l:Lt) (q:Nat) (id:String) (x:Value):Option (Sem Fin×Prop):=match x with
 | .float a _=>cond (isId id "float.__int__") (some (tI (l.il q),nOk a (l.il q)=true)) none
 | .ref C=>cond (isId id "list.__new__") (some (lnwG.1 (pure [(.builtin "list.__new__" ⟨[.ref C],[]⟩,default)]) ⟨[.ref C],[]⟩,True)) none
 | _=>none
noncomputable def sp3 (id:String) (x y z:Value):Option (Sem Fin×Prop):=(adr? x).bind fun a=>(adr? y).bind fun i=>(adr? z).bind fun b =>
 cond (isId id "list.__setitem__") (some (setG.1 (fun _ _=>false) ⟨[.ref a,.ref i,.ref b],[]⟩,¬ a=b)) none
noncomputable def spLs (l:Lt) (kt:KT) (w:World) (q:Nat) (id:String) (vs:List Value):Option (Sem Fin×Prop):=match vs with
 | []=>none
 | x::r=>match r with
  | []=>sp1 l q id x
  | y::r=>match r with
   | []=>sp2 l kt w q id x y
   | z::r=>cond r.isEmpty (sp3 id x y z) none
noncomputable def spFn (body:List Stmt) (env:Env):Option (Sem Fin×Prop):=match body with
 | []=>none
 | st::r=>match r with
  | []=>(lastOf st).bind fun x=>cond x.1 (some (func1G.1 (retG.1 (supG.1 (pure []) x.2.2.2.1 x.2.2.2.2.1 env (eval x.2.2.2.1 env)) x.2.2.2.1 x.2.2.2.2.1 x.2.2.2.2.2 x.2.2.1 x.2.1 env) env,True)) none
  | s2::r=>cond r.isEmpty ((lastOf s2).map fun x=>(func2G.1 (PySem.W.Fast.tw12563942051412417395 [st] env) (cond x.1 (retG.1 (supG.1 (pure []) x.2.2.2.1 x.2.2.2.2.1 env (eval x.2.2.2.1 env)) x.2.2.2.1 x.2.2.2.2.1 x.2.2.2.2.2 x.2.2.1 x.2.1 env)
   (exprG.1 (supG.1 (pure []) x.2.2.2.1 x.2.2.2.2.1 env (eval x.2.2.2.1 env)) x.2.2.2.1 x.2.2.2.2.1 x.2.2.2.2.2 x.2.2.1 x.2.1 env)) env,True)) none
noncomputable def spF (l:Lt) (kt:KT) (w:World) (q:Nat) (c:Code):Option (Sem Fin×Prop):=match c with
 | .builtin id args=>cond args.kw.isEmpty (spLs l kt w q id args.pos) none
 | .func body env=>spFn body env
 | _=>none
theorem when_some {α:Type} {id s:String} {x y:α} (h:cond (isId id s) (some x) none=some y):id=s∧x=y :=
 ⟨isId_eq (cond_some h).1,Option.some.inj (cond_some h).2⟩
noncomputable def Gd (w:World) (A:Around) (R:Result->Shared->Prop) (s:Shared) (c:Code) (t:Sem Fin):Prop :=
 wpOwn (model PySem.Challenge.pw_tr0064_01 w) A c t (postC PySem.Challenge.pw_tr0064_01 w A R) (postE R) s->codeAny (model PySem.Challenge.pw_tr0064_01 w) A c R s
section
variable {prog:Program} {w:World} {A:Around} {R:Result->Shared->Prop} {s:Shared} {id:String} {args:Args} {B:Builtin}
theorem spI {i:Int} (en:entryFor table id=some B) (pl:plainId id=true) (g:Gives (B args) (.int i))
 (x:wpOwn (model prog w) A (.builtin id args) (tI i) (postC prog w A R) (postE R) s):codeAny (model prog w) A (.builtin id args) R s:=by
 intro Γ p hc hΓ
 have y:R (.ok (.ret (.int i s.toks))) { s with toks:=s.toks + 1 }:=x Γ p hc hΓ
 refine (codeAny_builtin en ?_:codeAny (model prog w) A (.builtin id args) R s) Γ p hc hΓ
 rw [Around.under_plainId pl _]
 exact g prog w A R s y
theorem spFl {i:UInt64} (en:entryFor table id=some B) (pl:plainId id=true) (g:Gives (B args) (.float i))
 (x:wpOwn (model prog w) A (.builtin id args) (tF i) (postC prog w A R) (postE R) s):codeAny (model prog w) A (.builtin id args) R s:=by
 intro Γ p hc hΓ
 have y:R (.ok (.ret (.float i s.toks))) { s with toks:=s.toks + 1 }:=x Γ p hc hΓ
 refine (codeAny_builtin en ?_:codeAny (model prog w) A (.builtin id args) R s) Γ p hc hΓ
 rw [Around.under_plainId pl _]
 exact g prog w A R s y
theorem spS {i:Str} (hl:i.length≤sizeLine) (en:entryFor table id=some B) (pl:plainId id=true) (g:Gives (B args) (.str i))
 (x:wpOwn (model prog w) A (.builtin id args) (tS i) (postC prog w A R) (postE R) s):codeAny (model prog w) A (.builtin id args) R s:=by
 intro Γ p hc hΓ
 have y:R (.ok (.ret (.str i s.toks))) { s with toks:=s.toks + 1 }:=x Γ p hc hΓ
 refine (codeAny_builtin en ?_:codeAny (model prog w) A (.builtin id args) R s) Γ p hc hΓ
 rw [Around.under_plainId pl _]
 exact g prog w A R s ⟨hl,y⟩
theorem spV {v:Value} (en:entryFor table id=some B) (pl:plainId id=true) (g:Gives (B args) (.val v))
 (x:wpOwn (model prog w) A (.builtin id args) (tV v) (postC prog w A R) (postE R) s):codeAny (model prog w) A (.builtin id args) R s:=by
 intro Γ p hc hΓ
 have y:R (.ok (.ret v)) s:=x Γ p hc hΓ
 refine (codeAny_builtin en ?_:codeAny (model prog w) A (.builtin id args) R s) Γ p hc hΓ
 rw [Around.under_plainId pl _]
 exact g prog w A R s y
end
theorem cSp {id:String} {a b:UInt64} {ta tb:Tok} {r:Bool} (hn:cName id<4) (hv:cVal (cName id) a b=r) {prog:Program} {w:World} {A:Around} {R:Result->Shared->Prop} {s:Shared}
 (x:wpOwn (model prog w) A (.builtin id ⟨[.float a ta,.float b tb],[]⟩) (tV (.bool r)) (postC prog w A R) (postE R) s):codeAny (model prog w) A (.builtin id ⟨[.float a ta,.float b tb],[]⟩) R s:=by
 unfold cName at hn hv
 split at hn
 · rename_i h
   simp only [h] at hv
   subst hv
   obtain rfl:=isId_eq h
   exact spV F.entry_float_lt (by decide +kernel) (AutoFloatG5.float___lt___float_float_0 a ta b tb) x
 · rename_i h
   simp only [h] at hv
   split at hn
   · rename_i h
     simp only [h] at hv
     subst hv
     obtain rfl:=isId_eq h
     exact spV F.entry_float_le (by decide +kernel) (AutoFloatG3.float___le___float_float_0 a ta b tb) x
   · rename_i h
     simp only [h] at hv
     split at hn
     · rename_i h
       simp only [h] at hv
       subst hv
       obtain rfl:=isId_eq h
       exact spV F.entry_float_gt (by decide +kernel) (AutoFloatG4.float___gt___float_float_0 a ta b tb) x
     · rename_i h
       simp only [h] at hv
       split at hn
       · rename_i h
         simp only [h] at hv
         subst hv
         obtain rfl:=isId_eq h
         exact spV F.entry_float_eq (by decide +kernel) (AutoFloatG5.float___eq___float_float_0 a ta b tb) x
       · exact absurd hn (by decide)
theorem fSp {id:String} {a b c:UInt64} {ta tb:Tok} (hv:fOk (fName id) a b c=true) {prog:Program} {w:World} {A:Around} {R:Result->Shared->Prop} {s:Shared}
 (x:wpOwn (model prog w) A (.builtin id ⟨[.float a ta,.float b tb],[]⟩) (tF c) (postC prog w A R) (postE R) s):codeAny (model prog w) A (.builtin id ⟨[.float a ta,.float b tb],[]⟩) R s:=by
 unfold fName at hv
 split at hv
 · rename_i h
   obtain rfl:=isId_eq h
   obtain rfl:=eq_of_beq (show (Float64.add a b == c)=true from hv)
   exact spFl F.entry_float_add (by decide +kernel) (AutoFloatG4.float___add___float_float_0 a ta b tb) x
 · split at hv
   · rename_i h
     obtain rfl:=isId_eq h
     obtain rfl:=eq_of_beq (show (Float64.sub a b == c)=true from hv)
     exact spFl F.entry_float_sub (by decide +kernel) (AutoFloatG0.float___sub___float_float_0 a ta b tb) x
   · split at hv
     · rename_i h
       obtain rfl:=isId_eq h
       obtain rfl:=eq_of_beq (show (Float64.mul a b == c)=true from hv)
       exact spFl F.entry_float_mul (by decide +kernel) (AutoFloatG1.float___mul___float_float_0 a ta b tb) x
     · split at hv
       · rename_i h
         obtain rfl:=isId_eq h
         have hv':(!Float64.isZero b && Float64.div a b == c)=true:=hv
         rw [Bool.and_eq_true,Bool.not_eq_true'] at hv'
         obtain ⟨h1,h2⟩:=hv'
         obtain rfl:=eq_of_beq h2
         exact spFl F.entry_float_truediv (by decide +kernel) (AutoFloatG1.float___truediv___float_float_1 a ta b tb (by rw [h1]; decide)) x
       · split at hv
         · rename_i h
           obtain rfl:=isId_eq h
           have hv':(!Float64.isZero b && (Float64.divmod a b).snd == c)=true:=hv
           rw [Bool.and_eq_true,Bool.not_eq_true'] at hv'
           obtain ⟨h1,h2⟩:=hv'
           obtain rfl:=eq_of_beq h2
           exact spFl F.entry_float_mod (by decide +kernel) (AutoFloatG2.float___mod___float_float_1 a ta b tb (by rw [h1]; decide)) x
         · cases hv
theorem addS {a b:Str} {t u:Tok} (h1:(a.length == 0)=false) (h2:(b.length == 0)=false):Gives (Builtin.«str.__add__» ⟨[.str a t,.str b u],[]⟩) (.str (a++b)):=by
 have g:=gives_str_add a b t u
 rw [h1,h2] at g
 exact g
theorem dSp {w:World} {kt:KT} {A:Around} {R:Result->Shared->Prop} {s:Shared} {d:Addr} {x:Str} {t:Tok} {v:Value} (hK:kt.Holds s.heap 1 0) (h:dGet kt w d x v)
 (y:wpOwn (model PySem.Challenge.pw_tr0064_01 w) A (.builtin "dict.__getitem__" ⟨[.ref d,.str x t],[]⟩) (tK v) (postC PySem.Challenge.pw_tr0064_01 w A R) (postE R) s) :
 codeAny (model PySem.Challenge.pw_tr0064_01 w) A (.builtin "dict.__getitem__" ⟨[.ref d,.str x t],[]⟩) R s:=by
 intro Γ p hc hΓ
 have z:R (.ok (.ret v)) { s with toks:=s.toks + 1 }:=y Γ p hc hΓ
 obtain ⟨o,es,ep,ho,hx,hd,hk,hf⟩:=h
 have ho':s.heap.get? d=some o:=by
  have:=KT.Holds.get hK ho
  rw [Nat.one_mul,Nat.add_zero] at this
  exact this
 refine (codeAny_builtin F.entry_dict_getitem ?_:codeAny _ A (.builtin "dict.__getitem__" ⟨[.ref d,.str x t],[]⟩) R s) Γ p hc hΓ
 rw [Around.under_plainId (by decide +kernel) _]
 exact meets_dict_getitem (strKind PySem.Challenge.pw_tr0064_01 w) (k:=x) d (by show Value.isStrOf x (.str x t)=true; simp [Value.isStrOf]) A R s ⟨_,v,⟨o,es,ep,ho',hx,hd,hk,fun _=>rfl⟩,hf,z⟩
section
variable {w:World} {A:Around} {R:Result->Shared->Prop} {s:Shared} {l:Lt} {kt:KT} {q:Nat} {id:String} {t:Sem Fin} {φ:Prop}
theorem spI2_ok {a:Int} {ta:Tok} {y:Value} (e:spI2 l q id a y=some (t,φ)) (hφ:φ):Gd w A R s (.builtin id ⟨[.int a ta,y],[]⟩) t:=by
 cases y with
 | int b tb =>
  rcases cond_if e with e | e
  · obtain ⟨rfl,e⟩:=when_some e
    cases e
    exact spI F.entry_int_mul (by decide +kernel) (AutoIntG1.int___mul___int_int_0 _ _ _ _ hφ)
  · obtain ⟨rfl,e⟩:=when_some e
    cases e
    unfold dOk at hφ
    rw [Bool.and_eq_true,Bool.and_eq_true] at hφ
    obtain ⟨h1,h2,h3⟩:=hφ
    intro x
    rw [← eq_of_beq h3] at x
    exact spFl F.entry_int_truediv (by decide +kernel) (AutoIntG4.int___truediv___int_int_2 _ _ _ _ (by simpa using h1) (by simpa using h2)) x
 | _=>exact nso e
theorem spF2_ok {a:UInt64} {ta:Tok} {y:Value} (e:spF2 l q id a y=some (t,φ)) (hφ:φ):Gd w A R s (.builtin id ⟨[.float a ta,y],[]⟩) t:=by
 cases y with
 | float b tb =>
  rcases cond_if e with e | e
  · cases e
    exact cSp hφ.1 hφ.2
  · rcases cond_if e with e | e
    · cases e
      exact cSp hφ.1 hφ.2
    · cases e
      exact fSp hφ
 | int b tb =>
  obtain ⟨rfl,e⟩:=when_some e
  cases e
  unfold rOk at hφ
  rw [Bool.and_eq_true] at hφ
  obtain ⟨h1,h2⟩:=hφ
  intro x
  rw [← eq_of_beq h2] at x
  exact spFl F.entry_float_rmul (by decide +kernel) (AutoFloatG6.float___rmul___float_int_1 _ _ _ _ (by simpa using h1)) x
 | _=>exact nso e
theorem spR2_ok {so:Addr} {y:Value} (hK:kt.Holds s.heap 1 0) (e:spR2 l kt w q id so y=some (t,φ)) (hφ:φ):Gd w A R s (.builtin id ⟨[.ref so,y],[]⟩) t:=by
 cases y with
 | str name tn =>
  rcases cond_or e with ⟨h,e⟩ | e
  · cases e
    obtain rfl:=isId_eq h
    intro x Γ p hc hΓ
    exact codeOwn_builtin entry_sga (sga_own x ⟨Γ,hc,hΓ⟩) Γ p hc hΓ
  · obtain ⟨rfl,e⟩:=when_some e
    cases e
    exact dSp hK hφ
 | _=>exact nso e
theorem spS2_ok {a:Str} {ta:Tok} {y:Value} (e:spS2 l q id a y=some (t,φ)) (hφ:φ):Gd w A R s (.builtin id ⟨[.str a ta,y],[]⟩) t:=by
 cases y with
 | int b tb =>
  obtain ⟨rfl,e⟩:=when_some e
  cases e
  obtain ⟨h1,c,h2,h3⟩:=hφ
  intro x
  rw [h3] at x
  exact spS (by show (1:Nat)≤sizeLine; decide) F.entry_str_getitem (by decide +kernel) (gives_str_getitem _ _ _ _ c h1 h2) x
 | str b tb =>
  obtain ⟨rfl,e⟩:=when_some e
  cases e
  obtain ⟨h1,h2,h3,h4⟩:=hφ
  intro x
  rw [h4] at x
  exact spS h3 F.entry_str_add (by decide +kernel) (addS h1 h2) x
 | _=>exact nso e
theorem sp2_ok {x y:Value} (hK:kt.Holds s.heap 1 0) (e:sp2 l kt w q id x y=some (t,φ)) (hφ:φ):Gd w A R s (.builtin id ⟨[x,y],[]⟩) t:=by
 cases x with
 | int a _=>exact spI2_ok e hφ
 | float a _=>exact spF2_ok e hφ
 | ref a=>exact spR2_ok hK e hφ
 | str a _=>exact spS2_ok e hφ
 | _=>exact nso e
theorem sp1_ok {x:Value} (e:sp1 l q id x=some (t,φ)) (hφ:φ):Gd w A R s (.builtin id ⟨[x],[]⟩) t:=by
 cases x with
 | float a ta =>
  obtain ⟨rfl,e⟩:=when_some e
  cases e
  intro x
  unfold nOk at hφ
  split at hφ
  · rename_i sg m ex hd
    rw [← eq_of_beq hφ] at x
    exact spI F.entry_float_int (by decide +kernel) (gives_float_int _ _ hd) x
  · cases hφ
 | ref C =>
  obtain ⟨h,e⟩:=cond_some e
  cases e
  obtain rfl:=isId_eq h
  exact fun x=>codeOwn_builtin entry_lnw (lnw_own x)
 | _=>exact nso e
theorem sp3_ok {x y z:Value} (e:sp3 id x y z=some (t,φ)) (hφ:φ):Gd w A R s (.builtin id ⟨[x,y,z],[]⟩) t:=by
 obtain ⟨a,ha,e⟩:=bind_some e
 obtain ⟨i,hi,e⟩:=bind_some e
 obtain ⟨b,hb,e⟩:=bind_some e
 obtain rfl:=adr?_some ha
 obtain rfl:=adr?_some hi
 obtain rfl:=adr?_some hb
 obtain ⟨rfl,e⟩:=when_some e
 cases e
 exact setSp hφ
theorem spLs_ok {vs:List Value} (hK:kt.Holds s.heap 1 0) (e:spLs l kt w q id vs=some (t,φ)) (hφ:φ):Gd w A R s (.builtin id ⟨vs,[]⟩) t:=by
 cases vs with
 | nil=>exact nso e
 | cons x r=>cases r with
  | nil=>exact sp1_ok e hφ
  | cons y r=>cases r with
   | nil=>exact sp2_ok hK e hφ
   | cons z r =>
    cases r with
    | nil=>exact sp3_ok e hφ
    | cons _ _=>exact nso e
theorem spFn_ok {body:List Stmt} {env:Env} (e:spFn body env=some (t,φ)):Gd w A R s (.func body env) t:=by
 cases body with
 | nil=>exact nso e
 | cons st r=>cases r with
  | nil =>
   obtain ⟨⟨b,rp,pos,o,attr,apos⟩,h,e⟩:=bind_some e
   obtain ⟨h',e⟩:=cond_some e
   cases h'
   obtain rfl:=lastOf_some h
   cases e
   intro x
   refine codeAny_of_own fun Γ p hc hΓ=>?_
   have i:=func1G.2.2 _ _ _ _ _ _ (retG.2.2 _ _ _ _ _ o attr apos pos rp env (supG.2.2 _ _ _ _ _ o attr env _ noComps)) Γ _ _ p s hc hΓ (x Γ p hc hΓ)
   rw [← supG.2.1,← retG.2.1,← func1G.2.1] at i
   exact i
  | cons s2 r=>cases r with
   | cons _ _=>exact nso e
   | nil =>
    obtain ⟨⟨b,rp,pos,o,attr,apos⟩,h,e'⟩:=map_some' (show Option.map _ (lastOf s2)=some (t,φ) from e)
    clear e
    obtain rfl:=lastOf_some h
    cases e'
    intro x
    rw [← PySem.W.Fast.te12563942051412417395] at x
    refine codeAny_of_own fun Γ p hc hΓ=>?_
    cases b with
    | true =>
     have i:=func2G.2.2 _ _ _ _ _ _ _ _ (exec_one _ _ _ st env) (retG.2.2 _ _ _ _ _ o attr apos pos rp env (supG.2.2 _ _ _ _ _ o attr env _ noComps)) Γ _ _ p s hc hΓ (x Γ p hc hΓ)
     rw [← supG.2.1,← retG.2.1,← func2G.2.1] at i
     exact i
    | false =>
     have i:=func2G.2.2 _ _ _ _ _ _ _ _ (exec_one _ _ _ st env) (exprG.2.2 _ _ _ _ _ o attr apos pos rp env (supG.2.2 _ _ _ _ _ o attr env _ noComps)) Γ _ _ p s hc hΓ (x Γ p hc hΓ)
     rw [← supG.2.1,← exprG.2.1,← func2G.2.1] at i
     exact i
end
theorem spF_ok (w:World) (l:Lt) (D:Nat) (kt:KT):SpOk PySem.Challenge.pw_tr0064_01 w (spF l kt w) D kt:=by
 intro q c t φ e hφ A R s hA hD hK x
 cases c with
 | builtin id args =>
  obtain ⟨pos,kw⟩:=args
  cases kw with
  | nil=>exact spLs_ok hK e hφ x
  | cons _ _=>exact nso e
 | func body env=>exact spFn_ok e x
 | _=>exact nso e
noncomputable def mkE (l:Lt) (kt:KT) (w:World) (ad:Nat->Nat) (t0 g0:Nat):En:=⟨spF l kt w,⟨PySem.Challenge.pw_tr0064_01,w.params⟩,kt,ad,t0,g0⟩
theorem mkE_ctxt {l:Lt} {kt:KT} {w:World} {ad:Nat->Nat} {t0:Nat} {A:Around} {G:Array GenState} (hA:A.handled=none) (hd:A.depth + 210<recursionLimit) (lim:∀ h,kt.Holds h 1 0->h.NoLimit) :
 Ctxt PySem.Challenge.pw_tr0064_01 w A (mkE l kt w ad t0 G.size) G:=⟨rfl,rfl,hA,hd,spF_ok _ _ _ _,lim⟩
noncomputable abbrev oInst (C d:Nat) (vs:List Value) (n:Nat):Obj:=⟨.ref C,some d,.seq ⟨vs⟩ n,#[]⟩
noncomputable abbrev oTup (vs:List Value):Obj:=⟨.type sTuple,none,.seq ⟨vs⟩ 0,#[]⟩
noncomputable abbrev oList (vs:List Value) (n:Nat):Obj:=⟨.type sList,none,.seq ⟨vs⟩ n,#[]⟩
noncomputable abbrev oDict (es:List DictEntry) (n:Nat):Obj:=⟨.type sDict,none,.dict ⟨es⟩ n,#[]⟩
noncomputable def seqOf:Option Obj->Option (List Value)
 | some ⟨_,_,.seq a _,_⟩=>some a.toList
 | _=>none
noncomputable def refOf:Result->Option Nat
 | .ok (.ret (.ref a))=>some a
 | _=>none
end
theorem ins_full {x:Obj}:∀ (T:BT) (m:Nat),(∀ j,(T.get j).isSome=decide (j<m))->((T.ins m x).get m).isSome=true
 | .nil,m,h=>by
  have h0:=h 0
  have:m=0:=by
   have e:(BT.nil.get 0).isSome=false:=rfl
   rw [e] at h0
   by_cases q:0<m
   · rw [decide_eq_true q] at h0; cases h0
   · exact om185 q
  subst this
  rfl
 | .node v l r,m,h=>by
  have h0:=h 0
  rw [BT.get_node,if_pos rfl] at h0
  have hm:0<m:=by
   by_cases q:0<m
   · exact q
   · rw [decide_eq_false q] at h0; cases h0
  rw [BT.ins_node,if_neg (by exact om186 hm)]
  by_cases q:m % 2=1
  · rw [if_pos q,BT.get_node,if_neg (by exact om187 q),if_pos q]
    refine ins_full l (m / 2) fun j=>?_
    have:=h (2 * j + 1)
    rw [BT.get_node,if_neg (by exact om24),if_pos (by exact om25)] at this
    have e:(2 * j + 1) / 2=j:=by exact om26
    rw [e] at this
    rw [this]
    by_cases z:j<m / 2
    · rw [decide_eq_true z,decide_eq_true (by exact om188 z)]
    · rw [decide_eq_false z,decide_eq_false (by exact om189 z)]
  · rw [if_neg q,BT.get_node,if_neg (by exact om186 hm),if_neg q]
    refine ins_full r (m / 2 - 1) fun j=>?_
    have:=h (2 * j + 2)
    rw [BT.get_node,if_neg (by exact om28),if_neg (by exact om29)] at this
    have e:(2 * j + 2) / 2 - 1=j:=by exact om30
    rw [e] at this
    rw [this]
    by_cases z:j<m / 2 - 1
    · rw [decide_eq_true z,decide_eq_true (by exact om190 z)]
    · rw [decide_eq_false z,decide_eq_false (by exact om191 q z)]
theorem bt_fold:∀ (l l0:List Obj) (T:BT),(∀ j:Nat,T.get j=l0[j]?)->∀ j:Nat,(l.foldl (fun p x=>(p.1 + 1,p.2.ins p.1 x)) (l0.length,T)).2.get j=(l0++l)[j]?
 | [],l0,T,h,j=>by simpa using h j
 | x::l,l0,T,h,j=>by
  have hf:∀ j,(T.get j).isSome=decide (j<l0.length):=fun j=>by
   rw [h j]
   by_cases q:j<l0.length
   · rw [List.getElem?_eq_getElem q,decide_eq_true q]; rfl
   · rw [List.getElem?_eq_none (by exact om8 q),decide_eq_false q]; rfl
  have z:=bt_fold l (l0++[x]) (T.ins l0.length x) (fun i=>by
   rw [BT.get_ins x T l0.length (ins_full T _ hf)]
   by_cases q:i=l0.length
   · subst q; rw [if_pos rfl,List.getElem?_append_right (Nat.le_refl _),Nat.sub_self]; rfl
   · rw [if_neg q,h i]
     by_cases z:i<l0.length
     · rw [List.getElem?_append_left z]
     · rw [List.getElem?_eq_none (by exact om8 z),List.getElem?_eq_none (by rw [List.length_append]; simp only [List.length_cons,List.length_nil]; exact om192 q z)]) j
  rw [List.foldl_cons]
  rw [List.length_append] at z
  rw [List.append_assoc] at z
  exact z
theorem bt_get (l:List Obj) (j:Nat):(bt l).get j=l[j]?:=bt_fold l [] .nil (fun j=>rfl) j
noncomputable def adOf (as:List Nat) (h:Heap) (j:Nat):Nat:=if j<as.length then as.getD j 0 else h.objs.size + (j - as.length)
theorem adOf_low {as:List Nat} {h:Heap} {j:Nat} {a:Nat} (e:as[j]? = some a):adOf as h j=a:=by
 have hj:j<as.length:=by
  by_cases q:j<as.length
  · exact q
  · rw [List.getElem?_eq_none (by exact om8 q)] at e; cases e
 unfold adOf
 rw [if_pos hj,List.getD_eq_getElem?_getD,e]; rfl
theorem adOf_high {as:List Nat} {h:Heap} {j:Nat} (hj:as.length≤j):adOf as h j=h.objs.size + (j - as.length):=by
 unfold adOf; rw [if_neg (by exact om193 hj)]
theorem Rep.init {kt:KT} {h:Heap} {N:Nat} (as:List Nat) (l:List Obj) (hb:kt.Holds h 1 0) (hn:as.Nodup) (ho:as.map h.get? = l.map some) (top:∀ (a:Nat) x,kt.get a=some x->a<N) (off:∀ a∈as,N≤a):Rep kt (adOf as h) h h (bt l) as.length:=by
 have hl:as.length=l.length:=by simpa using congrArg List.length ho
 have hat:∀ (j:Nat) (a:Nat),as[j]? = some a->∃ x,l[j]? = some x∧h.get? a=some x:=fun j a e=>by
  have z:=congrArg (fun l:List (Option Obj)=>l[j]?) ho
  simp only [List.getElem?_map,e,Option.map_some] at z
  cases q:l[j]? with
  | none=>rw [q] at z; cases z
  | some x=>rw [q] at z; simp only [Option.map_some,Option.some.injEq] at z; exact ⟨x,rfl,z⟩
 have hget:∀ j:Nat,j<as.length->∃ a,as[j]? = some a:=fun j hj=>⟨_,List.getElem?_eq_getElem hj⟩
 refine ⟨hb,fun j hj=>adOf_high hj,fun j hj=>?_,fun i j hi hj e=>?_,fun j x e=>?_,fun j hj a x e=>?_,fun a x e _=>e,Nat.le_refl _⟩
 · obtain ⟨a,ha⟩:=hget j hj
   obtain ⟨x,_,hx⟩:=hat j a ha
   rw [adOf_low ha]
   exact Heap.lt_size hx
 · obtain ⟨a,ha⟩:=hget i hi
   obtain ⟨b,hb'⟩:=hget j hj
   rw [adOf_low ha,adOf_low hb'] at e
   subst e
   exact (List.getElem?_inj hi hn).mp (ha.trans hb'.symm)
 · rw [bt_get] at e
   have hj:j<as.length:=by
    rw [hl]
    by_cases q:j<l.length
    · exact q
    · rw [List.getElem?_eq_none (by exact om8 q)] at e; cases e
   obtain ⟨a,ha⟩:=hget j hj
   obtain ⟨y,hy,hx⟩:=hat j a ha
   rw [hy] at e; cases e
   exact ⟨hj,by rw [adOf_low ha]; exact hx⟩
 · obtain ⟨b,hb'⟩:=hget j hj
   rw [adOf_low hb']
   have h1:=top a x e
   have h2:=off b (List.mem_of_getElem? hb')
   exact fun q=>by rw [q] at h2; exact absurd h1 (Nat.not_lt.mpr h2)
theorem Rep.frame {kt:KT} {h h':Heap} {as:List Nat} {T':BT} {m':Nat} (D:Rep kt (adOf as h) h h' T' m') {a:Nat} {x:Obj} (e:h.get? a=some x) (hT:∀ j,as[j]? = some a->T'.get j=some x):h'.get? a=some x:=by
 by_cases q:∃ j,j<m'∧adOf as h j=a
 · obtain ⟨j,hj,ej⟩:=q
   have hlt:=Heap.lt_size e
   have:j<as.length:=by
    by_cases z:j<as.length
    · exact z
    · rw [adOf_high (by exact om8 z)] at ej; rw [← ej] at hlt; exact absurd hlt (Nat.not_lt.mpr (Nat.le_add_right _ _))
   have hj2:as[j]? = some a:=by
    rw [List.getElem?_eq_getElem this]
    rw [adOf_low (List.getElem?_eq_getElem this)] at ej
    rw [ej]
   rw [← ej]
   exact (D.own j x (hT j hj2)).2
 · exact D.keep a x e fun j hj hj2=>q ⟨j,hj,hj2⟩
section
noncomputable abbrev thePw:=PySem.Challenge.pw_tr0064_01
structure Cx (kt:KT) (N D:Nat) (A:Around) (h:Heap):Prop where
 hA:A.handled=none
 hd:A.depth + D<recursionLimit
 hb:kt.Holds h 1 0
 top:∀ (a:Nat) x,kt.get a=some x->a<N
 lim:∀ h,kt.Holds h 1 0->h.NoLimit
theorem Cx.less {kt:KT} {N D D':Nat} {A:Around} {h:Heap} (C:Cx kt N D A h) (e:D'≤D):Cx kt N D' A h:=⟨C.hA,by have:=C.hd; exact om1 e this,C.hb,C.top,C.lim⟩
theorem Cx.move {kt:KT} {N D:Nat} {A:Around} {h h':Heap} (C:Cx kt N D A h) (k:∀ b o,h.get? b=some o->h'.get? b=some o):Cx kt N D A h':=⟨C.hA,C.hd,KT.Holds.keeps k C.hb,C.top,C.lim⟩
theorem Cx.to {kt:KT} {N D:Nat} {A:Around} {h h':Heap} (C:Cx kt N D A h) (k:kt.Holds h' 1 0):Cx kt N D A h':=⟨C.hA,C.hd,k,C.top,C.lim⟩
noncomputable def GB (a b:Array GenState):Prop:=AllBare a->AllBare b
theorem GB.refl (a:Array GenState):GB a a:=fun h=>h
theorem GB.trans {a b c:Array GenState} (h:GB a b) (k:GB b c):GB a c:=fun x=>k (h x)
theorem GB.app (a:Array GenState) (l:List Code):GB a (a++(l.map GenState.fresh).toArray):=fun h y hy=>by
 rcases Array.mem_append.mp hy with hy | hy
 · exact h y hy
 · have hy:y∈l.map GenState.fresh:=by simpa using hy
   obtain ⟨c,_,rfl⟩:=List.mem_map.mp hy
   rfl
noncomputable def callT (E:En) (n:Nat) (a:Nat) (args:List Value) (T:BT) (m o:Nat):Rs :=
 run E n true (.call (.ref a) ⟨args,[]⟩) (callF a ⟨args,[]⟩ (defD E.kt a)) .nil 0 T m 0 [] o [] []
section
variable {lt:Lt} {w:World} {A:Around} {R:Result->Shared->Prop} {s:Shared} {kt:KT} {N:Nat} {n f o:Nat} {args:List Value} {X:Type u} {x:X} {ops:List Prop}
theorem sh_self (E:En) (s:Shared) (h:E.t0=s.toks):sh E s.gens s.drawn s.os s.heap 0 []=s:=by
 cases s
 simp only [sh,h]
 simp
theorem call_dn (C:Cx kt N 210 A s.heap) (as:List Nat) (l:List Obj) (hn:as.Nodup) (ho:as.map s.heap.get? = l.map some) (off:∀ a∈as,N≤a) (hp:(defAt kt f).isSome=true)
 (F:Result->BT->Nat->List Code->X) (e:(callT (mkE lt kt w (adOf as s.heap) s.toks s.gens.size) n f args (bt l) as.length o).dn F=some (x,ops,(callT (mkE lt kt w (adOf as s.heap) s.toks s.gens.size) n f args (bt l) as.length o).l1,(callT (mkE lt kt w (adOf as s.heap) s.toks s.gens.size) n f args (bt l) as.length o).l1)) (hop:∀ p∈ops,p)
 (hR:∀ h' g' t' r T' m' gs,F r T' m' gs=x->Rep kt (adOf as s.heap) s.heap h' T' m'->s.toks≤t'->GB s.gens g'->R r ⟨h',g',s.drawn,t',s.os⟩):codeAny (model thePw w) A (.call (.ref f) ⟨args,[]⟩) R s:=by
 have D:=Rep.init (N:=N) as l C.hb hn ho C.top off
 have Ct:=mkE_ctxt (l:=lt) (kt:=kt) (w:=w) (ad:=adOf as s.heap) (t0:=s.toks) (G:=s.gens) C.hA C.hd C.lim
 refine call_of Ct C.hb hp ?_
 have key:Means thePw w A R true (.call (.ref f) ⟨args,[]⟩) (callF f ⟨args,[]⟩ (defD kt f)) .nil (sh (mkE lt kt w (adOf as s.heap) s.toks s.gens.size) s.gens s.drawn s.os s.heap 0 []) :=
  sound_dn Ct trivial rfl (Nat.zero_le _) (Nat.zero_le _) D F e hop fun h' r T' m' i gs e' D'=>hR _ _ _ r T' m' gs e' D' (Nat.le_add_right _ _) (GB.app _ _)
 rw [sh_self _ s rfl] at key
 exact key
end
noncomputable def l3 (a:Nat->Int) (ta:Nat->Nat) (n:Nat):Obj:=oList [.int (a 0) (ta 0),.int (a 1) (ta 1),.int (a 2) (ta 2)] n
noncomputable def I3 (h:Heap) (p:Nat) (a:Nat->Int):Prop:=∃ ta n,h.get? p=some (l3 a ta n)
noncomputable def Keeps (h h':Heap):Prop:=∀ (b:Nat) o,h.get? b=some o->h'.get? b=some o
theorem Keeps.refl (h:Heap):Keeps h h:=fun _ _ e=>e
theorem Keeps.trans {h h' h'':Heap} (a:Keeps h h') (b:Keeps h' h''):Keeps h h'':=fun c o e=>b c o (a c o e)
theorem I3.keeps {h h':Heap} {p:Nat} {a:Nat->Int} (x:I3 h p a) (k:Keeps h h'):I3 h' p a:=by obtain ⟨ta,n,e⟩:=x; exact ⟨ta,n,k _ _ e⟩
theorem Rep.keeps {kt:KT} {h h':Heap} {as:List Nat} {l:List Obj} {T':BT} {m':Nat} (D:Rep kt (adOf as h) h h' T' m') (ho:as.map h.get? = l.map some) (hT:∀ j x,l[j]? = some x->T'.get j=some x):Keeps h h':=fun a x e =>
 D.frame e fun j ej=>hT j x (by
  have z:=congrArg (fun l:List (Option Obj)=>l[j]?) ho
  simp only [List.getElem?_map,ej,Option.map_some,e] at z
  cases q:l[j]? with
  | none=>rw [q] at z; cases z
  | some y=>rw [q] at z; simp only [Option.map_some,Option.some.injEq] at z; rw [z])
theorem all1 {l0:Obj} {T:BT} (h:T.get 0=some l0):∀ (j:Nat) x,[l0][j]? = some x->T.get j=some x:=fun j x e=>by
 match j,e with
 | 0,e=>cases e; exact h
theorem all2 {l0 l1:Obj} {T:BT} (h:T.get 0=some l0) (h1:T.get 1=some l1):∀ (j:Nat) x,[l0,l1][j]? = some x->T.get j=some x:=fun j x e=>by
 match j,e with
 | 0,e=>cases e; exact h
 | 1,e=>cases e; exact h1
theorem refOf_some {r:Result} {a:Nat} (h:refOf r=some a):r = .ok (.ret (.ref a)):=by
 cases r with
 | ok f=>cases f with
  | ret v=>cases v <;> first | exact nso h | (cases h; rfl)
  | _=>exact nso h
 | _=>exact nso h
noncomputable def tOp (a b:Nat->Int) (k i j:Nat):List Prop:=[IntMulOk 3 (a i * b j + a j * b i),IntMulOk (a j) (b i),IntMulOk (a i) (b j),IntMulOk 2 (a j * b k + a k * b j),IntMulOk (a k) (b j),IntMulOk (a j) (b k),IntMulOk (2 * a i) (b i),IntMulOk 2 (a i),IntMulOk (4 * a k) (b k),IntMulOk 4 (a k)]
noncomputable def tOps (a b:Nat->Int):List Prop:=tOp a b 2 0 1++(tOp a b 1 2 0++tOp a b 0 1 2)
noncomputable def tmV (a b:Nat->Int) (k i j:Nat):Int:=(4 * a k * b k + 2 * a i * b i + 2 * (a j * b k + a k * b j) + 3 * (a i * b j + a j * b i)).fmod 5
noncomputable def v3 (x y z:Int):Nat->Int
 | 0=>x
 | 1=>y
 | _=>z
noncomputable def times (a b:Nat->Int):Nat->Int:=v3 (tmV a b 0 1 2) (tmV a b 1 2 0) (tmV a b 2 0 1)
noncomputable def timesT (kt:KT) (w:World) (ad:Nat->Nat) (t0 g0:Nat) (a b:Nat->Int) (ta tb:Nat->Nat) (n n':Nat):Rs:=callT (mkE Lt.zero kt w ad t0 g0) 1090 232 [.ref (ad 0),.ref (ad 1)] (bt [l3 a ta n,l3 b tb n']) 2 zo0
noncomputable def timesT2 (kt:KT) (w:World) (ad:Nat->Nat) (t0 g0:Nat) (a:Nat->Int) (ta:Nat->Nat) (n:Nat):Rs:=callT (mkE Lt.zero kt w ad t0 g0) 1090 232 [.ref (ad 0),.ref (ad 0)] (bt [l3 a ta n]) 1 zo1
noncomputable def timesF (j:Nat) (r:Result) (T:BT) (_:Nat) (_:List Code):Option Nat×Option Obj×Option Obj×Option Obj:=(refOf r,T.get j,T.get 0,T.get (j - 2))
noncomputable def timesX (ad:Nat->Nat) (t0:Nat) (j:Nat) (a b:Nat->Int) (x y:Obj):Option Nat×Option Obj×Option Obj×Option Obj:=(some (ad j),some (l3 (times a b) (fun k=>match k with | 0=>t0 + 39 | 1=>t0 + 73 | _=>t0 + 107) 3),some x,some y)
structure TimesK (kt:Params->KT):Prop where
 def_:∀ P,(defAt (kt P) 232).isSome=true
 two:∀ (w:World) ad t0 g0 a b ta tb n n',(timesT (kt w.params) w ad t0 g0 a b ta tb n n').dn (timesF 3)=some (timesX ad t0 3 a b (l3 a ta n) (l3 b tb n'),tOps a b,(timesT (kt w.params) w ad t0 g0 a b ta tb n n').l1,(timesT (kt w.params) w ad t0 g0 a b ta tb n n').l1)
 one:∀ (w:World) ad t0 g0 a ta n,(timesT2 (kt w.params) w ad t0 g0 a ta n).dn (timesF 2)=some (timesX ad t0 2 a a (l3 a ta n) (l3 a ta n),tOps a a,(timesT2 (kt w.params) w ad t0 g0 a ta n).l1,(timesT2 (kt w.params) w ad t0 g0 a ta n).l1)
theorem mulOk {a b:Int} (h1:-100000<a) (h2:a<100000):IntMulOk a b:=IntMulOk.of_left (intBits_le_64 (by exact om2 h1) (by exact om3 h2))
noncomputable def Sm (a:Nat->Int):Prop:=∀ i,0≤a i∧a i<5
theorem tOps_ok {a b:Nat->Int} (ha:Sm a):∀ p∈tOps a b,p:=by
 intro p hp
 have h:=ha
 simp only [tOps,tOp,List.cons_append,List.nil_append,List.mem_cons,List.not_mem_nil,or_false] at hp
 have h0:=h 0
 have h1:=h 1
 have h2:=h 2
 rcases hp with rfl | rfl | rfl | rfl | rfl | rfl | rfl | rfl | rfl | rfl | rfl | rfl | rfl | rfl | rfl | rfl | rfl | rfl | rfl | rfl | rfl | rfl | rfl | rfl | rfl | rfl | rfl | rfl | rfl | rfl <;> exact mulOk (by omega) (by omega)
theorem times_c {kt:Params->KT} (K:TimesK kt) {w:World} {A:Around} {R:Result->Shared->Prop} {s:Shared} {N:Nat} {pa pb:Nat} {a b:Nat->Int} (C:Cx (kt w.params) N 210 A s.heap)
 (ha:I3 s.heap pa a) (hb:I3 s.heap pb b) (na:N≤pa) (nb:N≤pb) (sa:Sm a)
 (hR:∀ h' g' t' p,Keeps s.heap h'->I3 h' p (times a b)->s.heap.objs.size≤p->GB s.gens g'->R (.ok (.ret (.ref p))) ⟨h',g',s.drawn,t',s.os⟩) :
 codeAny (model thePw w) A (.call (.ref 232) ⟨[.ref pa,.ref pb],[]⟩) R s:=by
 obtain ⟨ta,n,ea⟩:=ha
 obtain ⟨tb,n',eb⟩:=hb
 by_cases q:pa=pb
 · subst q
   rw [ea] at eb
   have hab:a 0=b 0∧a 1=b 1∧a 2=b 2:=by
    simp only [l3,oList,Option.some.injEq,Obj.mk.injEq,Data.seq.injEq,Array.mk.injEq,List.cons.injEq,Value.int.injEq] at eb
    exact ⟨eb.2.2.1.1.1.1,eb.2.2.1.1.2.1.1,eb.2.2.1.1.2.2.1.1⟩
   have et:times a a=times a b:=by
    simp only [times,tmV,hab.1,hab.2.1,hab.2.2]
   have z:=K.one w (adOf [pa] s.heap) s.toks s.gens.size a ta n
   have e0:adOf [pa] s.heap 0=pa:=adOf_low rfl
   unfold timesT2 at z
   rw [e0] at z
   refine call_dn C [pa] [l3 a ta n] (by simp) (by simp [ea]) (by simpa using na) (K.def_ _) (timesF 2) z (tOps_ok sa) ?_
   intro h' g' t' r T' m' gs e D' _ gb
   simp only [timesF,timesX,Prod.mk.injEq] at e
   obtain ⟨er,eT,eT0,_⟩:=e
   have k:Keeps s.heap h':=D'.keeps (l:=[l3 a ta n]) (by simp [ea]) (all1 eT0)
   rw [refOf_some er]
   have e2:adOf [pa] s.heap 2=s.heap.objs.size + 1:=adOf_high (by simp)
   exact hR h' g' t' _ k (et ▸ ⟨_,_,(D'.own 2 _ eT).2⟩) (by rw [e2]; exact Nat.le_add_right _ _) gb
 · have z:=K.two w (adOf [pa,pb] s.heap) s.toks s.gens.size a b ta tb n n'
   have e0:adOf [pa,pb] s.heap 0=pa:=adOf_low rfl
   have e1:adOf [pa,pb] s.heap 1=pb:=adOf_low rfl
   unfold timesT at z
   rw [e0,e1] at z
   refine call_dn C [pa,pb] [l3 a ta n,l3 b tb n'] (by simp [q]) (by simp [ea,eb]) (by simp [na,nb]) (K.def_ _) (timesF 3) z (tOps_ok sa) ?_
   intro h' g' t' r T' m' gs e D' _ gb
   simp only [timesF,timesX,Prod.mk.injEq] at e
   obtain ⟨er,eT,eT0,eT1⟩:=e
   have k:Keeps s.heap h':=D'.keeps (l:=[l3 a ta n,l3 b tb n']) (by simp [ea,eb]) (all2 eT0 eT1)
   rw [refOf_some er]
   have e2:adOf [pa,pb] s.heap 3=s.heap.objs.size + 1:=adOf_high (by simp)
   exact hR h' g' t' _ k ⟨_,_,(D'.own 3 _ eT).2⟩ (by rw [e2]; exact Nat.le_add_right _ _) gb
end
inductive Fo
 | k (c:UInt64)
 | v (i:Nat)
inductive Op
 | d (i:Nat)
 | q (m n:Int)
 | f (n:Nat) (x y:Fo)
 | r (x:Fo) (m:Int)
 | c (n:Nat) (x y:Fo) (b:Bool)
 | n (x:Fo)
noncomputable def cOk (n:Nat) (a b:UInt64) (r:Bool):Prop:=n<4∧cVal n a b=r
noncomputable def Fo.at (l:Lt):Fo->UInt64
 | .k c=>c
 | .v i=>l.fl i
noncomputable def means (l:Lt) (a:Nat->Int):Nat->List Op->List Prop->List Prop
 | _,[],acc=>acc
 | k,.d i::r,acc=>means l a (k + 1) r ((dOk (a i) 4 (l.fl k)=true)::acc)
 | k,.q m n::r,acc=>means l a (k + 1) r ((dOk m n (l.fl k)=true)::acc)
 | k,.f n x y::r,acc=>means l a (k + 1) r ((fOk n (x.at l) (y.at l) (l.fl k)=true)::acc)
 | k,.r x m::r,acc=>means l a (k + 1) r ((rOk (x.at l) m (l.fl k)=true)::acc)
 | k,.n x::r,acc=>means l a (k + 1) r ((nOk (x.at l) (l.il k)=true)::acc)
 | k,.c n x y b::r,acc=>means l a k r (cOk n (x.at l) (y.at l) b::acc)
noncomputable abbrev Tb:=List (UInt64×Int)
noncomputable def ltOf (t:Tb):Lt:={ fl:=fun k=>(t.getD (k - 10) (0,0)).1,il:=fun k=>(t.getD (k - 10) (0,0)).2 }
noncomputable def Fo.get (t:Tb):Fo->Option UInt64
 | .k c=>some c
 | .v i=>(t[i - 10]?).map Prod.fst
noncomputable def fVal:Nat->UInt64->UInt64->UInt64
 | 0,a,b=>Float64.add a b
 | 1,a,b=>Float64.sub a b
 | 2,a,b=>Float64.mul a b
 | 3,a,b=>Float64.div a b
 | _,a,b=>(Float64.divmod a b).snd
noncomputable def dVal (a b:Int):UInt64:=Float64.ofFrac (decide (a<0) != decide (b<0)) a.natAbs b.natAbs
noncomputable def nVal (a:UInt64):Int:=match Float64.decode a with
 | .fin s m e=>Float64.truncOf s m e
 | _=>0
noncomputable def step1 (a:Nat->Int) (t:Tb):Op->Option Tb
 | .d i=>match dOk (a i) 4 (dVal (a i) 4) with
  | true=>some (t++[(dVal (a i) 4,0)])
  | false=>none
 | .q m n=>match dOk m n (dVal m n) with
  | true=>some (t++[(dVal m n,0)])
  | false=>none
 | .f n x y=>match x.get t,y.get t with
  | some x,some y=>match fOk n x y (fVal n x y) with
   | true=>some (t++[(fVal n x y,0)])
   | false=>none
  | _,_=>none
 | .r x m=>match x.get t with
  | some x=>match rOk x m (Float64.mul (Float64.ofInt m) x) with
   | true=>some (t++[(Float64.mul (Float64.ofInt m) x,0)])
   | false=>none
  | none=>none
 | .n x=>match x.get t with
  | some x=>match nOk x (nVal x) with
   | true=>some (t++[(0,nVal x)])
   | false=>none
  | none=>none
 | .c n x y b=>match x.get t,y.get t with
  | some x,some y=>match Nat.ble n 3 && (cVal n x y == b) with
   | true=>some t
   | false=>none
  | _,_=>none
noncomputable def solve (a:Nat->Int):Tb->List Op->Option Tb
 | t,[]=>some t
 | t,o::r=>match step1 a t o with
  | some t=>solve a t r
  | none=>none
theorem get_at {t u:Tb} {x:Fo} {v:UInt64} (h:x.get t=some v):x.at (ltOf (t++u))=v:=by
 cases x with
 | k c=>cases h; rfl
 | v i =>
  simp only [Fo.get,Option.map_eq_some_iff] at h
  obtain ⟨p,hp,rfl⟩:=h
  show ((t++u).getD (i - 10) (0,0)).1=p.1
  obtain ⟨hl,hp2⟩:=List.getElem?_eq_some_iff.mp hp
  rw [List.getD_eq_getElem?_getD,List.getElem?_append_left hl,hp]
  rfl
theorem at_new {t u:Tb} {p:UInt64×Int}:(ltOf (t++[p]++u)).fl (10 + t.length)=p.1∧(ltOf (t++[p]++u)).il (10 + t.length)=p.2:=by
 have:(t++[p]++u).getD (10 + t.length - 10) (0,0)=p:=by
  rw [Nat.add_sub_cancel_left,List.append_assoc,List.getD_eq_getElem?_getD,List.getElem?_append_right (Nat.le_refl _),Nat.sub_self]
  rfl
 exact ⟨congrArg Prod.fst this,congrArg Prod.snd this⟩
theorem solve_ok (a:Nat->Int):∀ (ops:List Op) (t t':Tb),solve a t ops=some t'->(∃ u,t'=t++u)∧∀ acc:List Prop,(∀ p∈acc,p)->∀ p∈means (ltOf t') a (10 + t.length) ops acc,p
 | [],t,t',e=>by cases e; exact ⟨⟨[],(List.append_nil _).symm⟩,fun acc h=>h⟩
 | o::r,t,t',e=>by
  unfold solve at e
  split at e
  · rename_i t1 e1
    obtain ⟨⟨u,hu⟩,ih⟩:=solve_ok a r t1 t' e
    have push:∀ p:UInt64×Int,t1=t++[p]->10 + t1.length=10 + t.length + 1:=fun p e=>by rw [e,List.length_append]; rfl
    have cons:∀ {φ:Prop} {acc:List Prop},φ->(∀ p∈acc,p)->∀ p∈φ::acc,p:=fun hφ ha p hp=>by
     rcases List.mem_cons.mp hp with rfl | hp
     · exact hφ
     · exact ha p hp
    cases o with
    | d i =>
     simp only [step1] at e1
     split at e1
     · rename_i hd
       cases e1
       refine ⟨⟨_,hu.trans (List.append_assoc _ _ _)⟩,fun acc ha=>?_⟩
       have z:=ih (_::acc) (cons (show dOk (a i) 4 ((ltOf t').fl (10 + t.length))=true by rw [hu,at_new.1]; exact hd) ha)
       rw [push _ rfl] at z
       exact z
     · cases e1
    | q m n =>
     simp only [step1] at e1
     split at e1
     · rename_i hd
       cases e1
       refine ⟨⟨_,hu.trans (List.append_assoc _ _ _)⟩,fun acc ha=>?_⟩
       have z:=ih (_::acc) (cons (show dOk m n ((ltOf t').fl (10 + t.length))=true by rw [hu,at_new.1]; exact hd) ha)
       rw [push _ rfl] at z
       exact z
     · cases e1
    | f n x y =>
     simp only [step1] at e1
     split at e1
     · rename_i hx hy
       split at e1
       · rename_i hd
         cases e1
         refine ⟨⟨_,hu.trans (List.append_assoc _ _ _)⟩,fun acc ha=>?_⟩
         have z:=ih (_::acc) (cons (show fOk n (x.at (ltOf t')) (y.at (ltOf t')) ((ltOf t').fl (10 + t.length))=true by rw [hu,at_new.1,List.append_assoc,get_at hx,get_at hy]; exact hd) ha)
         rw [push _ rfl] at z
         exact z
       · cases e1
     · cases e1
    | r x m =>
     simp only [step1] at e1
     split at e1
     · rename_i hx
       split at e1
       · rename_i hd
         cases e1
         refine ⟨⟨_,hu.trans (List.append_assoc _ _ _)⟩,fun acc ha=>?_⟩
         have z:=ih (_::acc) (cons (show rOk (x.at (ltOf t')) m ((ltOf t').fl (10 + t.length))=true by rw [hu,at_new.1,List.append_assoc,get_at hx]; exact hd) ha)
         rw [push _ rfl] at z
         exact z
       · cases e1
     · cases e1
    | n x =>
     simp only [step1] at e1
     split at e1
     · rename_i hx
       split at e1
       · rename_i hd
         cases e1
         refine ⟨⟨_,hu.trans (List.append_assoc _ _ _)⟩,fun acc ha=>?_⟩
         have z:=ih (_::acc) (cons (show nOk (x.at (ltOf t')) ((ltOf t').il (10 + t.length))=true by rw [hu,at_new.2,List.append_assoc,get_at hx]; exact hd) ha)
         rw [push _ rfl] at z
         exact z
       · cases e1
     · cases e1
    | c n x y b =>
     simp only [step1] at e1
     split at e1
     · rename_i hx hy
       split at e1
       · rename_i hd
         cases e1
         refine ⟨⟨_,hu⟩,fun acc ha=>?_⟩
         rw [Bool.and_eq_true] at hd
         have hn:=Nat.le_of_ble_eq_true hd.1
         exact ih (_::acc) (cons (show cOk n (x.at (ltOf t')) (y.at (ltOf t')) b by rw [hu,get_at hx,get_at hy]; exact ⟨by omega,eq_of_beq hd.2⟩) ha)
       · cases e1
     · cases e1
  · cases e
section
structure Pth where
 n:Nat
 o:Nat
 o2:Nat
 ins:List Op
 j:Nat
 i0:Nat
 k0:Nat
 i1:Nat
 k1:Nat
 i2:Nat
 k2:Nat
noncomputable def rowC (w:World):Bool:=w.params.followText "comprehension-iter-twice"
noncomputable def turnedT (p:Pth) (l:Lt) (kt:KT) (w:World) (ad:Nat->Nat) (t0 g0:Nat) (a:Nat->Int) (ta:Nat->Nat) (n:Nat):Rs:=callT (mkE l kt w ad t0 g0) p.n 225 [.ref (ad 0)] (bt [l3 a ta n]) 1 (cond (rowC w) p.o p.o2)
noncomputable def oneF (j:Nat) (r:Result) (T:BT) (_:Nat) (_:List Code):Option Nat×Option Obj×Option Obj:=(refOf r,T.get j,T.get 0)
noncomputable def tk3 (t0 x y z:Nat):Nat->Nat
 | 0=>t0 + x
 | 1=>t0 + y
 | _=>t0 + z
noncomputable def TurnedEq (kt:Params->KT) (p:Pth):Prop:=∀ (w:World) l ad t0 g0 a ta n,(turnedT p l (kt w.params) w ad t0 g0 a ta n).dn (oneF p.j) =
 some ((some (ad p.j),some (l3 (v3 (l.il p.i0) (l.il p.i1) (l.il p.i2)) (tk3 t0 p.k0 p.k1 p.k2) 3),some (l3 a ta n)),means l a 10 p.ins [],(turnedT p l (kt w.params) w ad t0 g0 a ta n).l1,(turnedT p l (kt w.params) w ad t0 g0 a ta n).l1)
noncomputable def tp0:Pth:=⟨1244,zo2,zo3,[.d 0,.d 1,.d 2,.c 2 (.v 11) (.v 10) false,.c 2 (.v 12) (.v 10) false,.c 0 (.v 11) (.v 10) false,.c 0 (.v 12) (.v 10) true,.f 0 (.v 10) (.v 12),.f 1 (.v 10) (.v 12),.f 3 (.v 13) (.k 4611686018427387904),.c 3 (.v 12) (.v 10) false,.c 1 (.v 15) (.k 4602678819172646912) false,.f 1 (.k 4611686018427387904) (.v 10),.f 1 (.v 16) (.v 12),.f 3 (.v 14) (.v 17),.f 1 (.v 10) (.v 10),.f 3 (.v 19) (.v 14),.f 1 (.v 10) (.v 11),.f 3 (.v 21) (.v 14),.f 1 (.v 10) (.v 12),.f 3 (.v 23) (.v 14),.c 3 (.v 10) (.v 10) true,.f 1 (.v 24) (.v 22),.f 3 (.v 25) (.k 4618441417868443648),.f 4 (.v 26) (.k 4607182418800017408),.q 1 3,.f 0 (.v 27) (.v 28),.c 3 (.v 18) (.k 0) false,.c 1 (.v 15) (.k 4602678819172646912) false,.f 0 (.v 15) (.v 18),.f 2 (.v 15) (.v 18),.f 1 (.v 30) (.v 31),.f 2 (.k 4611686018427387904) (.v 15),.f 1 (.v 33) (.v 32),.f 0 (.v 29) (.k 4599676419421066581),.f 4 (.v 35) (.k 4607182418800017408),.c 0 (.v 36) (.k 4595172819793696085) false,.c 0 (.v 36) (.k 4602678819172646912) false,.c 0 (.v 36) (.k 4604180019048437077) false,.f 4 (.v 29) (.k 4607182418800017408),.c 0 (.v 37) (.k 4595172819793696085) false,.c 0 (.v 37) (.k 4602678819172646912) false,.c 0 (.v 37) (.k 4604180019048437077) true,.f 1 (.v 32) (.v 34),.f 1 (.k 4604180019048437077) (.v 37),.f 2 (.v 38) (.v 39),.f 2 (.v 40) (.k 4618441417868443648),.f 0 (.v 34) (.v 41),.f 1 (.v 29) (.k 4599676419421066581),.f 4 (.v 43) (.k 4607182418800017408),.c 0 (.v 44) (.k 4595172819793696085) false,.c 0 (.v 44) (.k 4602678819172646912) true,.r (.v 34) 4,.f 0 (.v 45) (.k 4602678819172646912),.n (.v 46),.r (.v 42) 4,.f 0 (.v 48) (.k 4602678819172646912),.n (.v 49),.r (.v 32) 4,.f 0 (.v 51) (.k 4602678819172646912),.n (.v 52)],23,47,98,50,104,53,110⟩
noncomputable def tp1:Pth:=⟨1213,zo4,zo5,[.d 0,.d 1,.d 2,.c 2 (.v 11) (.v 10) true,.c 2 (.v 12) (.v 11) false,.c 0 (.v 11) (.v 10) false,.c 0 (.v 12) (.v 10) false,.f 0 (.v 11) (.v 10),.f 1 (.v 11) (.v 10),.f 3 (.v 13) (.k 4611686018427387904),.c 3 (.v 10) (.v 11) false,.c 1 (.v 15) (.k 4602678819172646912) true,.f 3 (.v 14) (.v 13),.f 1 (.v 11) (.v 10),.f 3 (.v 17) (.v 14),.f 1 (.v 11) (.v 11),.f 3 (.v 19) (.v 14),.f 1 (.v 11) (.v 12),.f 3 (.v 21) (.v 14),.c 3 (.v 10) (.v 11) false,.c 3 (.v 11) (.v 11) true,.f 0 (.k 4611686018427387904) (.v 18),.f 1 (.v 23) (.v 22),.f 3 (.v 24) (.k 4618441417868443648),.f 4 (.v 25) (.k 4607182418800017408),.q 1 3,.f 0 (.v 26) (.v 27),.c 3 (.v 16) (.k 0) false,.c 1 (.v 15) (.k 4602678819172646912) true,.f 0 (.k 4607182418800017408) (.v 16),.f 2 (.v 15) (.v 29),.f 2 (.k 4611686018427387904) (.v 15),.f 1 (.v 31) (.v 30),.f 0 (.v 28) (.k 4599676419421066581),.f 4 (.v 33) (.k 4607182418800017408),.c 0 (.v 34) (.k 4595172819793696085) true,.f 1 (.v 30) (.v 32),.f 2 (.v 35) (.v 34),.f 2 (.v 36) (.k 4618441417868443648),.f 0 (.v 32) (.v 37),.f 4 (.v 28) (.k 4607182418800017408),.c 0 (.v 39) (.k 4595172819793696085) false,.c 0 (.v 39) (.k 4602678819172646912) false,.c 0 (.v 39) (.k 4604180019048437077) false,.f 1 (.v 28) (.k 4599676419421066581),.f 4 (.v 40) (.k 4607182418800017408),.c 0 (.v 41) (.k 4595172819793696085) false,.c 0 (.v 41) (.k 4602678819172646912) true,.r (.v 38) 4,.f 0 (.v 42) (.k 4602678819172646912),.n (.v 43),.r (.v 32) 4,.f 0 (.v 45) (.k 4602678819172646912),.n (.v 46),.r (.v 30) 4,.f 0 (.v 48) (.k 4602678819172646912),.n (.v 49)],23,44,95,47,101,50,107⟩
noncomputable def tp2:Pth:=⟨1218,zo6,zo7,[.d 0,.d 1,.d 2,.c 2 (.v 11) (.v 10) false,.c 2 (.v 12) (.v 10) false,.c 0 (.v 11) (.v 10) true,.c 0 (.v 12) (.v 11) false,.f 0 (.v 10) (.v 11),.f 1 (.v 10) (.v 11),.f 3 (.v 13) (.k 4611686018427387904),.c 3 (.v 11) (.v 10) false,.c 1 (.v 15) (.k 4602678819172646912) false,.f 1 (.k 4611686018427387904) (.v 10),.f 1 (.v 16) (.v 11),.f 3 (.v 14) (.v 17),.f 1 (.v 10) (.v 10),.f 3 (.v 19) (.v 14),.f 1 (.v 10) (.v 11),.f 3 (.v 21) (.v 14),.f 1 (.v 10) (.v 12),.f 3 (.v 23) (.v 14),.c 3 (.v 10) (.v 10) true,.f 1 (.v 24) (.v 22),.f 3 (.v 25) (.k 4618441417868443648),.f 4 (.v 26) (.k 4607182418800017408),.q 1 3,.f 0 (.v 27) (.v 28),.c 3 (.v 18) (.k 0) false,.c 1 (.v 15) (.k 4602678819172646912) false,.f 0 (.v 15) (.v 18),.f 2 (.v 15) (.v 18),.f 1 (.v 30) (.v 31),.f 2 (.k 4611686018427387904) (.v 15),.f 1 (.v 33) (.v 32),.f 0 (.v 29) (.k 4599676419421066581),.f 4 (.v 35) (.k 4607182418800017408),.c 0 (.v 36) (.k 4595172819793696085) false,.c 0 (.v 36) (.k 4602678819172646912) false,.c 0 (.v 36) (.k 4604180019048437077) false,.f 4 (.v 29) (.k 4607182418800017408),.c 0 (.v 37) (.k 4595172819793696085) false,.c 0 (.v 37) (.k 4602678819172646912) true,.f 1 (.v 29) (.k 4599676419421066581),.f 4 (.v 38) (.k 4607182418800017408),.c 0 (.v 39) (.k 4595172819793696085) true,.f 1 (.v 32) (.v 34),.f 2 (.v 40) (.v 39),.f 2 (.v 41) (.k 4618441417868443648),.f 0 (.v 34) (.v 42),.r (.v 34) 4,.f 0 (.v 44) (.k 4602678819172646912),.n (.v 45),.r (.v 32) 4,.f 0 (.v 47) (.k 4602678819172646912),.n (.v 48),.r (.v 43) 4,.f 0 (.v 50) (.k 4602678819172646912),.n (.v 51)],23,46,96,49,102,52,108⟩
noncomputable def tp3:Pth:=⟨1223,zo8,zo9,[.d 0,.d 1,.d 2,.c 2 (.v 11) (.v 10) false,.c 2 (.v 12) (.v 10) false,.c 0 (.v 11) (.v 10) false,.c 0 (.v 12) (.v 10) true,.f 0 (.v 10) (.v 12),.f 1 (.v 10) (.v 12),.f 3 (.v 13) (.k 4611686018427387904),.c 3 (.v 12) (.v 10) false,.c 1 (.v 15) (.k 4602678819172646912) true,.f 3 (.v 14) (.v 13),.f 1 (.v 10) (.v 10),.f 3 (.v 17) (.v 14),.f 1 (.v 10) (.v 11),.f 3 (.v 19) (.v 14),.f 1 (.v 10) (.v 12),.f 3 (.v 21) (.v 14),.c 3 (.v 10) (.v 10) true,.f 1 (.v 22) (.v 20),.f 3 (.v 23) (.k 4618441417868443648),.f 4 (.v 24) (.k 4607182418800017408),.q 1 3,.f 0 (.v 25) (.v 26),.c 3 (.v 16) (.k 0) false,.c 1 (.v 15) (.k 4602678819172646912) true,.f 0 (.k 4607182418800017408) (.v 16),.f 2 (.v 15) (.v 28),.f 2 (.k 4611686018427387904) (.v 15),.f 1 (.v 30) (.v 29),.f 0 (.v 27) (.k 4599676419421066581),.f 4 (.v 32) (.k 4607182418800017408),.c 0 (.v 33) (.k 4595172819793696085) false,.c 0 (.v 33) (.k 4602678819172646912) false,.c 0 (.v 33) (.k 4604180019048437077) false,.f 4 (.v 27) (.k 4607182418800017408),.c 0 (.v 34) (.k 4595172819793696085) false,.c 0 (.v 34) (.k 4602678819172646912) false,.c 0 (.v 34) (.k 4604180019048437077) true,.f 1 (.v 29) (.v 31),.f 1 (.k 4604180019048437077) (.v 34),.f 2 (.v 35) (.v 36),.f 2 (.v 37) (.k 4618441417868443648),.f 0 (.v 31) (.v 38),.f 1 (.v 27) (.k 4599676419421066581),.f 4 (.v 40) (.k 4607182418800017408),.c 0 (.v 41) (.k 4595172819793696085) false,.c 0 (.v 41) (.k 4602678819172646912) true,.r (.v 31) 4,.f 0 (.v 42) (.k 4602678819172646912),.n (.v 43),.r (.v 39) 4,.f 0 (.v 45) (.k 4602678819172646912),.n (.v 46),.r (.v 29) 4,.f 0 (.v 48) (.k 4602678819172646912),.n (.v 49)],23,44,95,47,101,50,107⟩
noncomputable def tp4:Pth:=⟨1200,zo10,zo11,[.d 0,.d 1,.d 2,.c 2 (.v 11) (.v 10) false,.c 2 (.v 12) (.v 10) false,.c 0 (.v 11) (.v 10) true,.c 0 (.v 12) (.v 11) true,.f 0 (.v 10) (.v 12),.f 1 (.v 10) (.v 12),.f 3 (.v 13) (.k 4611686018427387904),.c 3 (.v 12) (.v 10) false,.c 1 (.v 15) (.k 4602678819172646912) true,.f 3 (.v 14) (.v 13),.f 1 (.v 10) (.v 10),.f 3 (.v 17) (.v 14),.f 1 (.v 10) (.v 11),.f 3 (.v 19) (.v 14),.f 1 (.v 10) (.v 12),.f 3 (.v 21) (.v 14),.c 3 (.v 10) (.v 10) true,.f 1 (.v 22) (.v 20),.f 3 (.v 23) (.k 4618441417868443648),.f 4 (.v 24) (.k 4607182418800017408),.q 1 3,.f 0 (.v 25) (.v 26),.c 3 (.v 16) (.k 0) false,.c 1 (.v 15) (.k 4602678819172646912) true,.f 0 (.k 4607182418800017408) (.v 16),.f 2 (.v 15) (.v 28),.f 2 (.k 4611686018427387904) (.v 15),.f 1 (.v 30) (.v 29),.f 0 (.v 27) (.k 4599676419421066581),.f 4 (.v 32) (.k 4607182418800017408),.c 0 (.v 33) (.k 4595172819793696085) false,.c 0 (.v 33) (.k 4602678819172646912) false,.c 0 (.v 33) (.k 4604180019048437077) false,.f 4 (.v 27) (.k 4607182418800017408),.c 0 (.v 34) (.k 4595172819793696085) false,.c 0 (.v 34) (.k 4602678819172646912) true,.f 1 (.v 27) (.k 4599676419421066581),.f 4 (.v 35) (.k 4607182418800017408),.c 0 (.v 36) (.k 4595172819793696085) true,.f 1 (.v 29) (.v 31),.f 2 (.v 37) (.v 36),.f 2 (.v 38) (.k 4618441417868443648),.f 0 (.v 31) (.v 39),.r (.v 31) 4,.f 0 (.v 41) (.k 4602678819172646912),.n (.v 42),.r (.v 29) 4,.f 0 (.v 44) (.k 4602678819172646912),.n (.v 45),.r (.v 40) 4,.f 0 (.v 47) (.k 4602678819172646912),.n (.v 48)],23,43,93,46,99,49,105⟩
noncomputable def tp5:Pth:=⟨1221,zo12,zo13,[.d 0,.d 1,.d 2,.c 2 (.v 11) (.v 10) false,.c 2 (.v 12) (.v 10) false,.c 0 (.v 11) (.v 10) true,.c 0 (.v 12) (.v 11) true,.f 0 (.v 10) (.v 12),.f 1 (.v 10) (.v 12),.f 3 (.v 13) (.k 4611686018427387904),.c 3 (.v 12) (.v 10) false,.c 1 (.v 15) (.k 4602678819172646912) false,.f 1 (.k 4611686018427387904) (.v 10),.f 1 (.v 16) (.v 12),.f 3 (.v 14) (.v 17),.f 1 (.v 10) (.v 10),.f 3 (.v 19) (.v 14),.f 1 (.v 10) (.v 11),.f 3 (.v 21) (.v 14),.f 1 (.v 10) (.v 12),.f 3 (.v 23) (.v 14),.c 3 (.v 10) (.v 10) true,.f 1 (.v 24) (.v 22),.f 3 (.v 25) (.k 4618441417868443648),.f 4 (.v 26) (.k 4607182418800017408),.q 1 3,.f 0 (.v 27) (.v 28),.c 3 (.v 18) (.k 0) false,.c 1 (.v 15) (.k 4602678819172646912) false,.f 0 (.v 15) (.v 18),.f 2 (.v 15) (.v 18),.f 1 (.v 30) (.v 31),.f 2 (.k 4611686018427387904) (.v 15),.f 1 (.v 33) (.v 32),.f 0 (.v 29) (.k 4599676419421066581),.f 4 (.v 35) (.k 4607182418800017408),.c 0 (.v 36) (.k 4595172819793696085) false,.c 0 (.v 36) (.k 4602678819172646912) false,.c 0 (.v 36) (.k 4604180019048437077) false,.f 4 (.v 29) (.k 4607182418800017408),.c 0 (.v 37) (.k 4595172819793696085) false,.c 0 (.v 37) (.k 4602678819172646912) true,.f 1 (.v 29) (.k 4599676419421066581),.f 4 (.v 38) (.k 4607182418800017408),.c 0 (.v 39) (.k 4595172819793696085) true,.f 1 (.v 32) (.v 34),.f 2 (.v 40) (.v 39),.f 2 (.v 41) (.k 4618441417868443648),.f 0 (.v 34) (.v 42),.r (.v 34) 4,.f 0 (.v 44) (.k 4602678819172646912),.n (.v 45),.r (.v 32) 4,.f 0 (.v 47) (.k 4602678819172646912),.n (.v 48),.r (.v 43) 4,.f 0 (.v 50) (.k 4602678819172646912),.n (.v 51)],23,46,96,49,102,52,108⟩
noncomputable def tp6:Pth:=⟨1237,zo14,zo15,[.d 0,.d 1,.d 2,.c 2 (.v 11) (.v 10) false,.c 2 (.v 12) (.v 10) true,.c 0 (.v 11) (.v 10) true,.c 0 (.v 12) (.v 11) false,.f 0 (.v 12) (.v 11),.f 1 (.v 12) (.v 11),.f 3 (.v 13) (.k 4611686018427387904),.c 3 (.v 11) (.v 12) false,.c 1 (.v 15) (.k 4602678819172646912) false,.f 1 (.k 4611686018427387904) (.v 12),.f 1 (.v 16) (.v 11),.f 3 (.v 14) (.v 17),.f 1 (.v 12) (.v 10),.f 3 (.v 19) (.v 14),.f 1 (.v 12) (.v 11),.f 3 (.v 21) (.v 14),.f 1 (.v 12) (.v 12),.f 3 (.v 23) (.v 14),.c 3 (.v 10) (.v 12) false,.c 3 (.v 11) (.v 12) false,.f 0 (.k 4616189618054758400) (.v 22),.f 1 (.v 25) (.v 20),.f 3 (.v 26) (.k 4618441417868443648),.f 4 (.v 27) (.k 4607182418800017408),.q 1 3,.f 0 (.v 28) (.v 29),.c 3 (.v 18) (.k 0) false,.c 1 (.v 15) (.k 4602678819172646912) false,.f 0 (.v 15) (.v 18),.f 2 (.v 15) (.v 18),.f 1 (.v 31) (.v 32),.f 2 (.k 4611686018427387904) (.v 15),.f 1 (.v 34) (.v 33),.f 0 (.v 30) (.k 4599676419421066581),.f 4 (.v 36) (.k 4607182418800017408),.c 0 (.v 37) (.k 4595172819793696085) false,.c 0 (.v 37) (.k 4602678819172646912) true,.f 4 (.v 30) (.k 4607182418800017408),.c 0 (.v 38) (.k 4595172819793696085) true,.f 1 (.v 33) (.v 35),.f 2 (.v 39) (.v 38),.f 2 (.v 40) (.k 4618441417868443648),.f 0 (.v 35) (.v 41),.f 1 (.v 30) (.k 4599676419421066581),.f 4 (.v 43) (.k 4607182418800017408),.c 0 (.v 44) (.k 4595172819793696085) false,.c 0 (.v 44) (.k 4602678819172646912) false,.c 0 (.v 44) (.k 4604180019048437077) false,.r (.v 33) 4,.f 0 (.v 45) (.k 4602678819172646912),.n (.v 46),.r (.v 42) 4,.f 0 (.v 48) (.k 4602678819172646912),.n (.v 49),.r (.v 35) 4,.f 0 (.v 51) (.k 4602678819172646912),.n (.v 52)],23,47,98,50,104,53,110⟩
noncomputable def tp7:Pth:=⟨1244,zo16,zo17,[.d 0,.d 1,.d 2,.c 2 (.v 11) (.v 10) false,.c 2 (.v 12) (.v 10) false,.c 0 (.v 11) (.v 10) true,.c 0 (.v 12) (.v 11) false,.f 0 (.v 10) (.v 11),.f 1 (.v 10) (.v 11),.f 3 (.v 13) (.k 4611686018427387904),.c 3 (.v 11) (.v 10) false,.c 1 (.v 15) (.k 4602678819172646912) false,.f 1 (.k 4611686018427387904) (.v 10),.f 1 (.v 16) (.v 11),.f 3 (.v 14) (.v 17),.f 1 (.v 10) (.v 10),.f 3 (.v 19) (.v 14),.f 1 (.v 10) (.v 11),.f 3 (.v 21) (.v 14),.f 1 (.v 10) (.v 12),.f 3 (.v 23) (.v 14),.c 3 (.v 10) (.v 10) true,.f 1 (.v 24) (.v 22),.f 3 (.v 25) (.k 4618441417868443648),.f 4 (.v 26) (.k 4607182418800017408),.q 1 3,.f 0 (.v 27) (.v 28),.c 3 (.v 18) (.k 0) false,.c 1 (.v 15) (.k 4602678819172646912) false,.f 0 (.v 15) (.v 18),.f 2 (.v 15) (.v 18),.f 1 (.v 30) (.v 31),.f 2 (.k 4611686018427387904) (.v 15),.f 1 (.v 33) (.v 32),.f 0 (.v 29) (.k 4599676419421066581),.f 4 (.v 35) (.k 4607182418800017408),.c 0 (.v 36) (.k 4595172819793696085) false,.c 0 (.v 36) (.k 4602678819172646912) false,.c 0 (.v 36) (.k 4604180019048437077) true,.f 1 (.v 32) (.v 34),.f 1 (.k 4604180019048437077) (.v 36),.f 2 (.v 37) (.v 38),.f 2 (.v 39) (.k 4618441417868443648),.f 0 (.v 34) (.v 40),.f 4 (.v 29) (.k 4607182418800017408),.c 0 (.v 42) (.k 4595172819793696085) false,.c 0 (.v 42) (.k 4602678819172646912) true,.f 1 (.v 29) (.k 4599676419421066581),.f 4 (.v 43) (.k 4607182418800017408),.c 0 (.v 44) (.k 4595172819793696085) false,.c 0 (.v 44) (.k 4602678819172646912) false,.c 0 (.v 44) (.k 4604180019048437077) false,.r (.v 41) 4,.f 0 (.v 45) (.k 4602678819172646912),.n (.v 46),.r (.v 32) 4,.f 0 (.v 48) (.k 4602678819172646912),.n (.v 49),.r (.v 34) 4,.f 0 (.v 51) (.k 4602678819172646912),.n (.v 52)],23,47,98,50,104,53,110⟩
noncomputable def tp8:Pth:=⟨1213,zo18,zo19,[.d 0,.d 1,.d 2,.c 2 (.v 11) (.v 10) false,.c 2 (.v 12) (.v 10) true,.c 0 (.v 11) (.v 10) false,.c 0 (.v 12) (.v 10) false,.f 0 (.v 12) (.v 10),.f 1 (.v 12) (.v 10),.f 3 (.v 13) (.k 4611686018427387904),.c 3 (.v 10) (.v 12) false,.c 1 (.v 15) (.k 4602678819172646912) true,.f 3 (.v 14) (.v 13),.f 1 (.v 12) (.v 10),.f 3 (.v 17) (.v 14),.f 1 (.v 12) (.v 11),.f 3 (.v 19) (.v 14),.f 1 (.v 12) (.v 12),.f 3 (.v 21) (.v 14),.c 3 (.v 10) (.v 12) false,.c 3 (.v 11) (.v 12) false,.f 0 (.k 4616189618054758400) (.v 20),.f 1 (.v 23) (.v 18),.f 3 (.v 24) (.k 4618441417868443648),.f 4 (.v 25) (.k 4607182418800017408),.q 1 3,.f 0 (.v 26) (.v 27),.c 3 (.v 16) (.k 0) false,.c 1 (.v 15) (.k 4602678819172646912) true,.f 0 (.k 4607182418800017408) (.v 16),.f 2 (.v 15) (.v 29),.f 2 (.k 4611686018427387904) (.v 15),.f 1 (.v 31) (.v 30),.f 0 (.v 28) (.k 4599676419421066581),.f 4 (.v 33) (.k 4607182418800017408),.c 0 (.v 34) (.k 4595172819793696085) false,.c 0 (.v 34) (.k 4602678819172646912) true,.f 4 (.v 28) (.k 4607182418800017408),.c 0 (.v 35) (.k 4595172819793696085) true,.f 1 (.v 30) (.v 32),.f 2 (.v 36) (.v 35),.f 2 (.v 37) (.k 4618441417868443648),.f 0 (.v 32) (.v 38),.f 1 (.v 28) (.k 4599676419421066581),.f 4 (.v 40) (.k 4607182418800017408),.c 0 (.v 41) (.k 4595172819793696085) false,.c 0 (.v 41) (.k 4602678819172646912) false,.c 0 (.v 41) (.k 4604180019048437077) false,.r (.v 30) 4,.f 0 (.v 42) (.k 4602678819172646912),.n (.v 43),.r (.v 39) 4,.f 0 (.v 45) (.k 4602678819172646912),.n (.v 46),.r (.v 32) 4,.f 0 (.v 48) (.k 4602678819172646912),.n (.v 49)],23,44,95,47,101,50,107⟩
noncomputable def tp9:Pth:=⟨1263,zo20,zo21,[.d 0,.d 1,.d 2,.c 2 (.v 11) (.v 10) true,.c 2 (.v 12) (.v 11) true,.c 0 (.v 11) (.v 10) false,.c 0 (.v 12) (.v 10) false,.f 0 (.v 12) (.v 10),.f 1 (.v 12) (.v 10),.f 3 (.v 13) (.k 4611686018427387904),.c 3 (.v 10) (.v 12) false,.c 1 (.v 15) (.k 4602678819172646912) false,.f 1 (.k 4611686018427387904) (.v 12),.f 1 (.v 16) (.v 10),.f 3 (.v 14) (.v 17),.f 1 (.v 12) (.v 10),.f 3 (.v 19) (.v 14),.f 1 (.v 12) (.v 11),.f 3 (.v 21) (.v 14),.f 1 (.v 12) (.v 12),.f 3 (.v 23) (.v 14),.c 3 (.v 10) (.v 12) false,.c 3 (.v 11) (.v 12) false,.f 0 (.k 4616189618054758400) (.v 22),.f 1 (.v 25) (.v 20),.f 3 (.v 26) (.k 4618441417868443648),.f 4 (.v 27) (.k 4607182418800017408),.q 1 3,.f 0 (.v 28) (.v 29),.c 3 (.v 18) (.k 0) false,.c 1 (.v 15) (.k 4602678819172646912) false,.f 0 (.v 15) (.v 18),.f 2 (.v 15) (.v 18),.f 1 (.v 31) (.v 32),.f 2 (.k 4611686018427387904) (.v 15),.f 1 (.v 34) (.v 33),.f 0 (.v 30) (.k 4599676419421066581),.f 4 (.v 36) (.k 4607182418800017408),.c 0 (.v 37) (.k 4595172819793696085) false,.c 0 (.v 37) (.k 4602678819172646912) true,.f 4 (.v 30) (.k 4607182418800017408),.c 0 (.v 38) (.k 4595172819793696085) false,.c 0 (.v 38) (.k 4602678819172646912) false,.c 0 (.v 38) (.k 4604180019048437077) false,.f 1 (.v 30) (.k 4599676419421066581),.f 4 (.v 39) (.k 4607182418800017408),.c 0 (.v 40) (.k 4595172819793696085) false,.c 0 (.v 40) (.k 4602678819172646912) false,.c 0 (.v 40) (.k 4604180019048437077) true,.f 1 (.v 33) (.v 35),.f 1 (.k 4604180019048437077) (.v 40),.f 2 (.v 41) (.v 42),.f 2 (.v 43) (.k 4618441417868443648),.f 0 (.v 35) (.v 44),.r (.v 33) 4,.f 0 (.v 46) (.k 4602678819172646912),.n (.v 47),.r (.v 35) 4,.f 0 (.v 49) (.k 4602678819172646912),.n (.v 50),.r (.v 45) 4,.f 0 (.v 52) (.k 4602678819172646912),.n (.v 53)],23,48,100,51,106,54,112⟩
noncomputable def tp10:Pth:=⟨1242,zo22,zo23,[.d 0,.d 1,.d 2,.c 2 (.v 11) (.v 10) true,.c 2 (.v 12) (.v 11) true,.c 0 (.v 11) (.v 10) false,.c 0 (.v 12) (.v 10) false,.f 0 (.v 12) (.v 10),.f 1 (.v 12) (.v 10),.f 3 (.v 13) (.k 4611686018427387904),.c 3 (.v 10) (.v 12) false,.c 1 (.v 15) (.k 4602678819172646912) true,.f 3 (.v 14) (.v 13),.f 1 (.v 12) (.v 10),.f 3 (.v 17) (.v 14),.f 1 (.v 12) (.v 11),.f 3 (.v 19) (.v 14),.f 1 (.v 12) (.v 12),.f 3 (.v 21) (.v 14),.c 3 (.v 10) (.v 12) false,.c 3 (.v 11) (.v 12) false,.f 0 (.k 4616189618054758400) (.v 20),.f 1 (.v 23) (.v 18),.f 3 (.v 24) (.k 4618441417868443648),.f 4 (.v 25) (.k 4607182418800017408),.q 1 3,.f 0 (.v 26) (.v 27),.c 3 (.v 16) (.k 0) false,.c 1 (.v 15) (.k 4602678819172646912) true,.f 0 (.k 4607182418800017408) (.v 16),.f 2 (.v 15) (.v 29),.f 2 (.k 4611686018427387904) (.v 15),.f 1 (.v 31) (.v 30),.f 0 (.v 28) (.k 4599676419421066581),.f 4 (.v 33) (.k 4607182418800017408),.c 0 (.v 34) (.k 4595172819793696085) false,.c 0 (.v 34) (.k 4602678819172646912) true,.f 4 (.v 28) (.k 4607182418800017408),.c 0 (.v 35) (.k 4595172819793696085) false,.c 0 (.v 35) (.k 4602678819172646912) false,.c 0 (.v 35) (.k 4604180019048437077) false,.f 1 (.v 28) (.k 4599676419421066581),.f 4 (.v 36) (.k 4607182418800017408),.c 0 (.v 37) (.k 4595172819793696085) false,.c 0 (.v 37) (.k 4602678819172646912) false,.c 0 (.v 37) (.k 4604180019048437077) true,.f 1 (.v 30) (.v 32),.f 1 (.k 4604180019048437077) (.v 37),.f 2 (.v 38) (.v 39),.f 2 (.v 40) (.k 4618441417868443648),.f 0 (.v 32) (.v 41),.r (.v 30) 4,.f 0 (.v 43) (.k 4602678819172646912),.n (.v 44),.r (.v 32) 4,.f 0 (.v 46) (.k 4602678819172646912),.n (.v 47),.r (.v 42) 4,.f 0 (.v 49) (.k 4602678819172646912),.n (.v 50)],23,45,97,48,103,51,109⟩
noncomputable def tp11:Pth:=⟨1242,zo24,zo25,[.d 0,.d 1,.d 2,.c 2 (.v 11) (.v 10) true,.c 2 (.v 12) (.v 11) false,.c 0 (.v 11) (.v 10) false,.c 0 (.v 12) (.v 10) true,.f 0 (.v 11) (.v 12),.f 1 (.v 11) (.v 12),.f 3 (.v 13) (.k 4611686018427387904),.c 3 (.v 12) (.v 11) false,.c 1 (.v 15) (.k 4602678819172646912) true,.f 3 (.v 14) (.v 13),.f 1 (.v 11) (.v 10),.f 3 (.v 17) (.v 14),.f 1 (.v 11) (.v 11),.f 3 (.v 19) (.v 14),.f 1 (.v 11) (.v 12),.f 3 (.v 21) (.v 14),.c 3 (.v 10) (.v 11) false,.c 3 (.v 11) (.v 11) true,.f 0 (.k 4611686018427387904) (.v 18),.f 1 (.v 23) (.v 22),.f 3 (.v 24) (.k 4618441417868443648),.f 4 (.v 25) (.k 4607182418800017408),.q 1 3,.f 0 (.v 26) (.v 27),.c 3 (.v 16) (.k 0) false,.c 1 (.v 15) (.k 4602678819172646912) true,.f 0 (.k 4607182418800017408) (.v 16),.f 2 (.v 15) (.v 29),.f 2 (.k 4611686018427387904) (.v 15),.f 1 (.v 31) (.v 30),.f 0 (.v 28) (.k 4599676419421066581),.f 4 (.v 33) (.k 4607182418800017408),.c 0 (.v 34) (.k 4595172819793696085) false,.c 0 (.v 34) (.k 4602678819172646912) false,.c 0 (.v 34) (.k 4604180019048437077) false,.f 4 (.v 28) (.k 4607182418800017408),.c 0 (.v 35) (.k 4595172819793696085) false,.c 0 (.v 35) (.k 4602678819172646912) false,.c 0 (.v 35) (.k 4604180019048437077) true,.f 1 (.v 30) (.v 32),.f 1 (.k 4604180019048437077) (.v 35),.f 2 (.v 36) (.v 37),.f 2 (.v 38) (.k 4618441417868443648),.f 0 (.v 32) (.v 39),.f 1 (.v 28) (.k 4599676419421066581),.f 4 (.v 41) (.k 4607182418800017408),.c 0 (.v 42) (.k 4595172819793696085) false,.c 0 (.v 42) (.k 4602678819172646912) true,.r (.v 32) 4,.f 0 (.v 43) (.k 4602678819172646912),.n (.v 44),.r (.v 40) 4,.f 0 (.v 46) (.k 4602678819172646912),.n (.v 47),.r (.v 30) 4,.f 0 (.v 49) (.k 4602678819172646912),.n (.v 50)],23,45,97,48,103,51,109⟩
noncomputable def tp12:Pth:=⟨1263,zo26,zo27,[.d 0,.d 1,.d 2,.c 2 (.v 11) (.v 10) true,.c 2 (.v 12) (.v 11) false,.c 0 (.v 11) (.v 10) false,.c 0 (.v 12) (.v 10) true,.f 0 (.v 11) (.v 12),.f 1 (.v 11) (.v 12),.f 3 (.v 13) (.k 4611686018427387904),.c 3 (.v 12) (.v 11) false,.c 1 (.v 15) (.k 4602678819172646912) false,.f 1 (.k 4611686018427387904) (.v 11),.f 1 (.v 16) (.v 12),.f 3 (.v 14) (.v 17),.f 1 (.v 11) (.v 10),.f 3 (.v 19) (.v 14),.f 1 (.v 11) (.v 11),.f 3 (.v 21) (.v 14),.f 1 (.v 11) (.v 12),.f 3 (.v 23) (.v 14),.c 3 (.v 10) (.v 11) false,.c 3 (.v 11) (.v 11) true,.f 0 (.k 4611686018427387904) (.v 20),.f 1 (.v 25) (.v 24),.f 3 (.v 26) (.k 4618441417868443648),.f 4 (.v 27) (.k 4607182418800017408),.q 1 3,.f 0 (.v 28) (.v 29),.c 3 (.v 18) (.k 0) false,.c 1 (.v 15) (.k 4602678819172646912) false,.f 0 (.v 15) (.v 18),.f 2 (.v 15) (.v 18),.f 1 (.v 31) (.v 32),.f 2 (.k 4611686018427387904) (.v 15),.f 1 (.v 34) (.v 33),.f 0 (.v 30) (.k 4599676419421066581),.f 4 (.v 36) (.k 4607182418800017408),.c 0 (.v 37) (.k 4595172819793696085) false,.c 0 (.v 37) (.k 4602678819172646912) false,.c 0 (.v 37) (.k 4604180019048437077) false,.f 4 (.v 30) (.k 4607182418800017408),.c 0 (.v 38) (.k 4595172819793696085) false,.c 0 (.v 38) (.k 4602678819172646912) false,.c 0 (.v 38) (.k 4604180019048437077) true,.f 1 (.v 33) (.v 35),.f 1 (.k 4604180019048437077) (.v 38),.f 2 (.v 39) (.v 40),.f 2 (.v 41) (.k 4618441417868443648),.f 0 (.v 35) (.v 42),.f 1 (.v 30) (.k 4599676419421066581),.f 4 (.v 44) (.k 4607182418800017408),.c 0 (.v 45) (.k 4595172819793696085) false,.c 0 (.v 45) (.k 4602678819172646912) true,.r (.v 35) 4,.f 0 (.v 46) (.k 4602678819172646912),.n (.v 47),.r (.v 43) 4,.f 0 (.v 49) (.k 4602678819172646912),.n (.v 50),.r (.v 33) 4,.f 0 (.v 52) (.k 4602678819172646912),.n (.v 53)],23,48,100,51,106,54,112⟩
noncomputable def tp13:Pth:=⟨1197,zo28,zo29,[.d 0,.d 1,.d 2,.c 2 (.v 11) (.v 10) false,.c 2 (.v 12) (.v 10) false,.c 0 (.v 11) (.v 10) true,.c 0 (.v 12) (.v 11) false,.f 0 (.v 10) (.v 11),.f 1 (.v 10) (.v 11),.f 3 (.v 13) (.k 4611686018427387904),.c 3 (.v 11) (.v 10) false,.c 1 (.v 15) (.k 4602678819172646912) true,.f 3 (.v 14) (.v 13),.f 1 (.v 10) (.v 10),.f 3 (.v 17) (.v 14),.f 1 (.v 10) (.v 11),.f 3 (.v 19) (.v 14),.f 1 (.v 10) (.v 12),.f 3 (.v 21) (.v 14),.c 3 (.v 10) (.v 10) true,.f 1 (.v 22) (.v 20),.f 3 (.v 23) (.k 4618441417868443648),.f 4 (.v 24) (.k 4607182418800017408),.q 1 3,.f 0 (.v 25) (.v 26),.c 3 (.v 16) (.k 0) false,.c 1 (.v 15) (.k 4602678819172646912) true,.f 0 (.k 4607182418800017408) (.v 16),.f 2 (.v 15) (.v 28),.f 2 (.k 4611686018427387904) (.v 15),.f 1 (.v 30) (.v 29),.f 0 (.v 27) (.k 4599676419421066581),.f 4 (.v 32) (.k 4607182418800017408),.c 0 (.v 33) (.k 4595172819793696085) false,.c 0 (.v 33) (.k 4602678819172646912) false,.c 0 (.v 33) (.k 4604180019048437077) false,.f 4 (.v 27) (.k 4607182418800017408),.c 0 (.v 34) (.k 4595172819793696085) false,.c 0 (.v 34) (.k 4602678819172646912) true,.f 1 (.v 27) (.k 4599676419421066581),.f 4 (.v 35) (.k 4607182418800017408),.c 0 (.v 36) (.k 4595172819793696085) true,.f 1 (.v 29) (.v 31),.f 2 (.v 37) (.v 36),.f 2 (.v 38) (.k 4618441417868443648),.f 0 (.v 31) (.v 39),.r (.v 31) 4,.f 0 (.v 41) (.k 4602678819172646912),.n (.v 42),.r (.v 29) 4,.f 0 (.v 44) (.k 4602678819172646912),.n (.v 45),.r (.v 40) 4,.f 0 (.v 47) (.k 4602678819172646912),.n (.v 48)],23,43,93,46,99,49,105⟩
noncomputable def tp14:Pth:=⟨1223,zo30,zo31,[.d 0,.d 1,.d 2,.c 2 (.v 11) (.v 10) false,.c 2 (.v 12) (.v 10) false,.c 0 (.v 11) (.v 10) true,.c 0 (.v 12) (.v 11) false,.f 0 (.v 10) (.v 11),.f 1 (.v 10) (.v 11),.f 3 (.v 13) (.k 4611686018427387904),.c 3 (.v 11) (.v 10) false,.c 1 (.v 15) (.k 4602678819172646912) true,.f 3 (.v 14) (.v 13),.f 1 (.v 10) (.v 10),.f 3 (.v 17) (.v 14),.f 1 (.v 10) (.v 11),.f 3 (.v 19) (.v 14),.f 1 (.v 10) (.v 12),.f 3 (.v 21) (.v 14),.c 3 (.v 10) (.v 10) true,.f 1 (.v 22) (.v 20),.f 3 (.v 23) (.k 4618441417868443648),.f 4 (.v 24) (.k 4607182418800017408),.q 1 3,.f 0 (.v 25) (.v 26),.c 3 (.v 16) (.k 0) false,.c 1 (.v 15) (.k 4602678819172646912) true,.f 0 (.k 4607182418800017408) (.v 16),.f 2 (.v 15) (.v 28),.f 2 (.k 4611686018427387904) (.v 15),.f 1 (.v 30) (.v 29),.f 0 (.v 27) (.k 4599676419421066581),.f 4 (.v 32) (.k 4607182418800017408),.c 0 (.v 33) (.k 4595172819793696085) false,.c 0 (.v 33) (.k 4602678819172646912) false,.c 0 (.v 33) (.k 4604180019048437077) true,.f 1 (.v 29) (.v 31),.f 1 (.k 4604180019048437077) (.v 33),.f 2 (.v 34) (.v 35),.f 2 (.v 36) (.k 4618441417868443648),.f 0 (.v 31) (.v 37),.f 4 (.v 27) (.k 4607182418800017408),.c 0 (.v 39) (.k 4595172819793696085) false,.c 0 (.v 39) (.k 4602678819172646912) true,.f 1 (.v 27) (.k 4599676419421066581),.f 4 (.v 40) (.k 4607182418800017408),.c 0 (.v 41) (.k 4595172819793696085) false,.c 0 (.v 41) (.k 4602678819172646912) false,.c 0 (.v 41) (.k 4604180019048437077) false,.r (.v 38) 4,.f 0 (.v 42) (.k 4602678819172646912),.n (.v 43),.r (.v 29) 4,.f 0 (.v 45) (.k 4602678819172646912),.n (.v 46),.r (.v 31) 4,.f 0 (.v 48) (.k 4602678819172646912),.n (.v 49)],23,44,95,47,101,50,107⟩
noncomputable def tp15:Pth:=⟨1234,zo32,zo33,[.d 0,.d 1,.d 2,.c 2 (.v 11) (.v 10) true,.c 2 (.v 12) (.v 11) false,.c 0 (.v 11) (.v 10) false,.c 0 (.v 12) (.v 10) false,.f 0 (.v 11) (.v 10),.f 1 (.v 11) (.v 10),.f 3 (.v 13) (.k 4611686018427387904),.c 3 (.v 10) (.v 11) false,.c 1 (.v 15) (.k 4602678819172646912) false,.f 1 (.k 4611686018427387904) (.v 11),.f 1 (.v 16) (.v 10),.f 3 (.v 14) (.v 17),.f 1 (.v 11) (.v 10),.f 3 (.v 19) (.v 14),.f 1 (.v 11) (.v 11),.f 3 (.v 21) (.v 14),.f 1 (.v 11) (.v 12),.f 3 (.v 23) (.v 14),.c 3 (.v 10) (.v 11) false,.c 3 (.v 11) (.v 11) true,.f 0 (.k 4611686018427387904) (.v 20),.f 1 (.v 25) (.v 24),.f 3 (.v 26) (.k 4618441417868443648),.f 4 (.v 27) (.k 4607182418800017408),.q 1 3,.f 0 (.v 28) (.v 29),.c 3 (.v 18) (.k 0) false,.c 1 (.v 15) (.k 4602678819172646912) false,.f 0 (.v 15) (.v 18),.f 2 (.v 15) (.v 18),.f 1 (.v 31) (.v 32),.f 2 (.k 4611686018427387904) (.v 15),.f 1 (.v 34) (.v 33),.f 0 (.v 30) (.k 4599676419421066581),.f 4 (.v 36) (.k 4607182418800017408),.c 0 (.v 37) (.k 4595172819793696085) true,.f 1 (.v 33) (.v 35),.f 2 (.v 38) (.v 37),.f 2 (.v 39) (.k 4618441417868443648),.f 0 (.v 35) (.v 40),.f 4 (.v 30) (.k 4607182418800017408),.c 0 (.v 42) (.k 4595172819793696085) false,.c 0 (.v 42) (.k 4602678819172646912) false,.c 0 (.v 42) (.k 4604180019048437077) false,.f 1 (.v 30) (.k 4599676419421066581),.f 4 (.v 43) (.k 4607182418800017408),.c 0 (.v 44) (.k 4595172819793696085) false,.c 0 (.v 44) (.k 4602678819172646912) true,.r (.v 41) 4,.f 0 (.v 45) (.k 4602678819172646912),.n (.v 46),.r (.v 35) 4,.f 0 (.v 48) (.k 4602678819172646912),.n (.v 49),.r (.v 33) 4,.f 0 (.v 51) (.k 4602678819172646912),.n (.v 52)],23,47,98,50,104,53,110⟩
noncomputable def tp16:Pth:=⟨1234,zo34,zo35,[.d 0,.d 1,.d 2,.c 2 (.v 11) (.v 10) false,.c 2 (.v 12) (.v 10) true,.c 0 (.v 11) (.v 10) false,.c 0 (.v 12) (.v 10) false,.f 0 (.v 12) (.v 10),.f 1 (.v 12) (.v 10),.f 3 (.v 13) (.k 4611686018427387904),.c 3 (.v 10) (.v 12) false,.c 1 (.v 15) (.k 4602678819172646912) false,.f 1 (.k 4611686018427387904) (.v 12),.f 1 (.v 16) (.v 10),.f 3 (.v 14) (.v 17),.f 1 (.v 12) (.v 10),.f 3 (.v 19) (.v 14),.f 1 (.v 12) (.v 11),.f 3 (.v 21) (.v 14),.f 1 (.v 12) (.v 12),.f 3 (.v 23) (.v 14),.c 3 (.v 10) (.v 12) false,.c 3 (.v 11) (.v 12) false,.f 0 (.k 4616189618054758400) (.v 22),.f 1 (.v 25) (.v 20),.f 3 (.v 26) (.k 4618441417868443648),.f 4 (.v 27) (.k 4607182418800017408),.q 1 3,.f 0 (.v 28) (.v 29),.c 3 (.v 18) (.k 0) false,.c 1 (.v 15) (.k 4602678819172646912) false,.f 0 (.v 15) (.v 18),.f 2 (.v 15) (.v 18),.f 1 (.v 31) (.v 32),.f 2 (.k 4611686018427387904) (.v 15),.f 1 (.v 34) (.v 33),.f 0 (.v 30) (.k 4599676419421066581),.f 4 (.v 36) (.k 4607182418800017408),.c 0 (.v 37) (.k 4595172819793696085) false,.c 0 (.v 37) (.k 4602678819172646912) true,.f 4 (.v 30) (.k 4607182418800017408),.c 0 (.v 38) (.k 4595172819793696085) true,.f 1 (.v 33) (.v 35),.f 2 (.v 39) (.v 38),.f 2 (.v 40) (.k 4618441417868443648),.f 0 (.v 35) (.v 41),.f 1 (.v 30) (.k 4599676419421066581),.f 4 (.v 43) (.k 4607182418800017408),.c 0 (.v 44) (.k 4595172819793696085) false,.c 0 (.v 44) (.k 4602678819172646912) false,.c 0 (.v 44) (.k 4604180019048437077) false,.r (.v 33) 4,.f 0 (.v 45) (.k 4602678819172646912),.n (.v 46),.r (.v 42) 4,.f 0 (.v 48) (.k 4602678819172646912),.n (.v 49),.r (.v 35) 4,.f 0 (.v 51) (.k 4602678819172646912),.n (.v 52)],23,47,98,50,104,53,110⟩
noncomputable def tp17:Pth:=⟨1216,zo36,zo37,[.d 0,.d 1,.d 2,.c 2 (.v 11) (.v 10) false,.c 2 (.v 12) (.v 10) true,.c 0 (.v 11) (.v 10) true,.c 0 (.v 12) (.v 11) false,.f 0 (.v 12) (.v 11),.f 1 (.v 12) (.v 11),.f 3 (.v 13) (.k 4611686018427387904),.c 3 (.v 11) (.v 12) false,.c 1 (.v 15) (.k 4602678819172646912) true,.f 3 (.v 14) (.v 13),.f 1 (.v 12) (.v 10),.f 3 (.v 17) (.v 14),.f 1 (.v 12) (.v 11),.f 3 (.v 19) (.v 14),.f 1 (.v 12) (.v 12),.f 3 (.v 21) (.v 14),.c 3 (.v 10) (.v 12) false,.c 3 (.v 11) (.v 12) false,.f 0 (.k 4616189618054758400) (.v 20),.f 1 (.v 23) (.v 18),.f 3 (.v 24) (.k 4618441417868443648),.f 4 (.v 25) (.k 4607182418800017408),.q 1 3,.f 0 (.v 26) (.v 27),.c 3 (.v 16) (.k 0) false,.c 1 (.v 15) (.k 4602678819172646912) true,.f 0 (.k 4607182418800017408) (.v 16),.f 2 (.v 15) (.v 29),.f 2 (.k 4611686018427387904) (.v 15),.f 1 (.v 31) (.v 30),.f 0 (.v 28) (.k 4599676419421066581),.f 4 (.v 33) (.k 4607182418800017408),.c 0 (.v 34) (.k 4595172819793696085) false,.c 0 (.v 34) (.k 4602678819172646912) true,.f 4 (.v 28) (.k 4607182418800017408),.c 0 (.v 35) (.k 4595172819793696085) true,.f 1 (.v 30) (.v 32),.f 2 (.v 36) (.v 35),.f 2 (.v 37) (.k 4618441417868443648),.f 0 (.v 32) (.v 38),.f 1 (.v 28) (.k 4599676419421066581),.f 4 (.v 40) (.k 4607182418800017408),.c 0 (.v 41) (.k 4595172819793696085) false,.c 0 (.v 41) (.k 4602678819172646912) false,.c 0 (.v 41) (.k 4604180019048437077) false,.r (.v 30) 4,.f 0 (.v 42) (.k 4602678819172646912),.n (.v 43),.r (.v 39) 4,.f 0 (.v 45) (.k 4602678819172646912),.n (.v 46),.r (.v 32) 4,.f 0 (.v 48) (.k 4602678819172646912),.n (.v 49)],23,44,95,47,101,50,107⟩
noncomputable def turnedPs:List Pth:=[tp0,tp1,tp2,tp3,tp4,tp5,tp6,tp7,tp8,tp9,tp10,tp11,tp12,tp13,tp14,tp15,tp16,tp17]
noncomputable def lumaP:List Op:=[.d 0,.d 1,.d 2,.f 2 (.k 4599075939470750515) (.v 10),.f 2 (.k 4603489467105573601) (.v 11),.f 0 (.v 13) (.v 14),.f 2 (.k 4592590756007337001) (.v 12),.f 0 (.v 15) (.v 16),.f 1 (.v 10) (.v 17),.f 2 (.k 4604840546993784750) (.v 18),.f 1 (.v 12) (.v 17),.f 2 (.k 4598535507515466056) (.v 20),.f 1 (.v 19) (.v 21),.f 1 (.v 10) (.v 17),.f 2 (.k 4602318531202457272) (.v 23),.f 1 (.v 12) (.v 17),.f 2 (.k 4601057523306793533) (.v 25),.f 0 (.v 24) (.v 26),.r (.v 17) 400,.f 0 (.v 28) (.k 4602678819172646912),.n (.v 29)]
noncomputable def lumaT (l:Lt) (kt:KT) (w:World) (ad:Nat->Nat) (t0 g0:Nat) (a:Nat->Int) (ta:Nat->Nat) (n:Nat):Rs:=callT (mkE l kt w ad t0 g0) 301 239 [.ref (ad 0)] (bt [l3 a ta n]) 1 zo38
noncomputable def intOf:Result->Option Int
 | .ok (.ret (.int i _))=>some i
 | _=>none
theorem intOf_some {r:Result} {i:Int} (h:intOf r=some i):∃ t,r = .ok (.ret (.int i t)):=by
 cases r with
 | ok f=>cases f with
  | ret v=>cases v <;> first | exact nso h | (cases h; exact ⟨_,rfl⟩)
  | _=>exact nso h
 | _=>exact nso h
noncomputable def lumaF (r:Result) (T:BT) (_:Nat) (_:List Code):Option Int×Option Obj:=(intOf r,T.get 0)
noncomputable def LumaK (kt:Params->KT):Prop:=∀ (w:World) l ad t0 g0 a ta n,(lumaT l (kt w.params) w ad t0 g0 a ta n).dn lumaF =
 some ((some ((l.il 30).fmod 5),some (l3 a ta n)),means l a 10 lumaP [],(lumaT l (kt w.params) w ad t0 g0 a ta n).l1,(lumaT l (kt w.params) w ad t0 g0 a ta n).l1)
noncomputable def ilAt (t:Tb) (k:Nat):Int:=(ltOf t).il k
noncomputable def turnedBy (p:Pth) (a:Nat->Int) (x y z:Int):Bool:=match solve a [] p.ins with
 | some t=>(ilAt t p.i0 == x) && ((ilAt t p.i1 == y) && (ilAt t p.i2 == z))
 | none=>false
noncomputable def turnedIs (a:Nat->Int) (x y z:Int):Bool:=turnedPs.any fun p=>turnedBy p a x y z
noncomputable def lumaIs (a:Nat->Int) (x:Int):Bool:=match solve a [] lumaP with
 | some t=>(ilAt t 30).fmod 5 == x
 | none=>false
section
variable {kt:Params->KT} {w:World} {A:Around} {R:Result->Shared->Prop} {s:Shared} {N:Nat} {pa:Nat} {a:Nat->Int}
theorem turned_c (K:∀ p∈turnedPs,TurnedEq kt p) (hp:∀ P,(defAt (kt P) 225).isSome=true) (C:Cx (kt w.params) N 210 A s.heap) (ha:I3 s.heap pa a) (na:N≤pa) {x y z:Int} (hx:turnedIs a x y z=true)
 (hR:∀ h' g' t' p,Keeps s.heap h'->I3 h' p (v3 x y z)->s.heap.objs.size≤p->GB s.gens g'->R (.ok (.ret (.ref p))) ⟨h',g',s.drawn,t',s.os⟩) :
 codeAny (model thePw w) A (.call (.ref 225) ⟨[.ref pa],[]⟩) R s:=by
 obtain ⟨ta,n,ea⟩:=ha
 obtain ⟨p,hpm,hp2⟩:=List.any_eq_true.mp hx
 unfold turnedBy at hp2
 split at hp2
 · rename_i t ht
   rw [Bool.and_eq_true,Bool.and_eq_true] at hp2
   obtain ⟨e0,e1,e2⟩:=hp2
   have k:=K p hpm w (ltOf t) (adOf [pa] s.heap) s.toks s.gens.size a ta n
   have f0:adOf [pa] s.heap 0=pa:=adOf_low rfl
   unfold turnedT at k
   rw [f0] at k
   refine call_dn C [pa] [l3 a ta n] (by simp) (by simp [ea]) (by simpa using na) (hp _) (oneF p.j) k ((solve_ok a p.ins [] t ht).2 [] (fun p h=>nomatch h)) ?_
   intro h' g' t' r T' m' gs e D' _ gb
   simp only [oneF,Prod.mk.injEq] at e
   obtain ⟨er,eT,eT0⟩:=e
   have kk:Keeps s.heap h':=D'.keeps (l:=[l3 a ta n]) (by simp [ea]) (all1 eT0)
   rw [refOf_some er]
   have hj:1≤p.j:=by
    rcases Nat.eq_zero_or_pos p.j with q | q
    · exfalso
      revert q
      have:∀ p∈turnedPs,p.j ≠ 0:=by
       intro p hp
       simp only [turnedPs,List.mem_cons,List.not_mem_nil,or_false] at hp
       rcases hp with rfl | rfl | rfl | rfl | rfl | rfl | rfl | rfl | rfl | rfl | rfl | rfl | rfl | rfl | rfl | rfl | rfl | rfl <;> exact (by decide)
      exact this p hpm
    · exact q
   have e3:adOf [pa] s.heap p.j=s.heap.objs.size + (p.j - 1):=adOf_high hj
   have i3:I3 h' (adOf [pa] s.heap p.j) (v3 x y z):=by
    have z0:(ltOf t).il p.i0=x:=eq_of_beq e0
    have z1:(ltOf t).il p.i1=y:=eq_of_beq e1
    have z2:(ltOf t).il p.i2=z:=eq_of_beq e2
    rw [z0,z1,z2] at eT
    exact ⟨_,_,(D'.own _ _ eT).2⟩
   exact hR h' g' t' _ kk i3 (by rw [e3]; exact Nat.le_add_right _ _) gb
 · cases hp2
theorem luma_c (K:LumaK kt) (hp:∀ P,(defAt (kt P) 239).isSome=true) (C:Cx (kt w.params) N 210 A s.heap) (ha:I3 s.heap pa a) (na:N≤pa) {x:Int} (hx:lumaIs a x=true)
 (hR:∀ h' g' t' tk,Keeps s.heap h'->s.heap.objs.size≤h'.objs.size->GB s.gens g'->R (.ok (.ret (.int x tk))) ⟨h',g',s.drawn,t',s.os⟩) :
 codeAny (model thePw w) A (.call (.ref 239) ⟨[.ref pa],[]⟩) R s:=by
 obtain ⟨ta,n,ea⟩:=ha
 unfold lumaIs at hx
 split at hx
 · rename_i t ht
   have k:=K w (ltOf t) (adOf [pa] s.heap) s.toks s.gens.size a ta n
   have f0:adOf [pa] s.heap 0=pa:=adOf_low rfl
   unfold lumaT at k
   rw [f0] at k
   refine call_dn C [pa] [l3 a ta n] (by simp) (by simp [ea]) (by simpa using na) (hp _) lumaF k ((solve_ok a lumaP [] t ht).2 [] (fun p h=>nomatch h)) ?_
   intro h' g' t' r T' m' gs e D' _ gb
   simp only [lumaF,Prod.mk.injEq] at e
   obtain ⟨er,eT0⟩:=e
   have kk:Keeps s.heap h':=D'.keeps (l:=[l3 a ta n]) (by simp [ea]) (all1 eT0)
   obtain ⟨tk,rfl⟩:=intOf_some er
   have:((ltOf t).il 30).fmod 5=x:=eq_of_beq hx
   rw [this]
   exact hR h' g' t' tk kk D'.size gb
 · cases hx
end
end
section
universe u
noncomputable def Rs.agn0 {X:Type u} (rs:Rs) (f:Code->BT->Nat->List Code->X):Seen X:=match rs with
 | .again c' .nil _ T m _ gs ob op=>some (f c' T m gs,op,ob.map Prod.fst,ob.map Prod.snd)
 | _=>none
noncomputable def Rs.stq {X:Type u} (rs:Rs) (f:Code->Nat->BT->Nat->List Code->X):Seen X:=match rs with
 | .stop c' _ _ _ d T m _ gs ob op=>some (f c' d T m gs,op,ob.map Prod.fst,ob.map Prod.snd)
 | _=>none
theorem code_of {prog:Program} {w:World} {A:Around} {R:Result->Shared->Prop} {c:Code} {s:Shared} (h:Means prog w A R false c (denF c) .nil s):codeAny (model prog w) A c R s:=by
 refine codeAny_of_own ?_
 show wpOwn _ _ _ (denote table c) _ _ s
 rw [denF_eq]
 exact h
theorem Cx.under {kt:KT} {N D D' d:Nat} {A:Around} {h:Heap} {c:Code} {k:Result->Sem Fin} {κ:Kn} (C:Cx kt N D A h) (hk:κ.okc) (hc:c.isCaller=false) (hl:κ.len≤d) (hD:D' + 5 * (d + 1)≤D):Cx kt N D' (arK A (.cons c k κ)) h:=by
 refine ⟨(arK_handled A _).trans C.hA,?_,C.hb,C.top,C.lim⟩
 have h1:=arK_depth A (.cons c k κ) ⟨hc,hk⟩
 have h2:(Kn.cons c k κ).len=κ.len + 1:=rfl
 have h3:=C.hd
 rw [h2] at h1
 exact om256 hl hD h1 h3
section
variable {lt:Lt} {w:World} {A:Around} {R:Result->Shared->Prop} {s:Shared} {kt:KT} {N:Nat} {n o:Nat} {X:Type u} {x:X} {ops:List Prop} {b:Bool} {c:Code} {t:Sem Fin} {κ:Kn} {d:Nat}
noncomputable abbrev segRun (lt:Lt) (kt:KT) (w:World) (as:List Nat) (s:Shared) (l:List Obj) (n:Nat) (b:Bool) (c:Code) (t:Sem Fin) (κ:Kn) (d o:Nat):Rs:=run (mkE lt kt w (adOf as s.heap) s.toks s.gens.size) n b c t κ d (bt l) as.length 0 [] o [] []
theorem seg_dn (C:Cx kt N 210 A s.heap) (as:List Nat) (l:List Obj) (hn:as.Nodup) (ho:as.map s.heap.get? = l.map some) (off:∀ a∈as,N≤a) (hk:κ.okc) (hc:c.isCaller=false) (hl:κ.len≤d) (hl2:κ.len≤42)
 (F:Result->BT->Nat->List Code->X) (e:(segRun lt kt w as s l n b c t κ d o).dn F=some (x,ops,(segRun lt kt w as s l n b c t κ d o).l1,(segRun lt kt w as s l n b c t κ d o).l1)) (hop:∀ p∈ops,p)
 (hR:∀ h' t' r T' m' gs,F r T' m' gs=x->Rep kt (adOf as s.heap) s.heap h' T' m'->s.toks≤t'->R r ⟨h',s.gens++(gs.map GenState.fresh).toArray,s.drawn,t',s.os⟩):Means thePw w A R b c t κ s:=by
 have D:=Rep.init (N:=N) as l C.hb hn ho C.top off
 have Ct:=mkE_ctxt (l:=lt) (kt:=kt) (w:=w) (ad:=adOf as s.heap) (t0:=s.toks) (G:=s.gens) C.hA C.hd C.lim
 have key:Means thePw w A R b c t κ (sh (mkE lt kt w (adOf as s.heap) s.toks s.gens.size) s.gens s.drawn s.os s.heap 0 []) :=
  sound_dn Ct hk hc hl hl2 D F e hop fun h' r T' m' i gs e' D'=>hR _ _ r T' m' gs e' D' (Nat.le_add_right _ _)
 rw [sh_self _ s rfl] at key
 exact key
theorem seg_agn (C:Cx kt N 210 A s.heap) (as:List Nat) (l:List Obj) (hn:as.Nodup) (ho:as.map s.heap.get? = l.map some) (off:∀ a∈as,N≤a) (hk:κ.okc) (hc:c.isCaller=false) (hl:κ.len≤d) (hl2:κ.len≤42)
 (F:Code->BT->Nat->List Code->X) (e:(segRun lt kt w as s l n b c t κ d o).agn0 F=some (x,ops,(segRun lt kt w as s l n b c t κ d o).l1,(segRun lt kt w as s l n b c t κ d o).l1)) (hop:∀ p∈ops,p)
 (hR:∀ h' t' c' T' m' gs,F c' T' m' gs=x->Rep kt (adOf as s.heap) s.heap h' T' m'->s.toks≤t'->codeAny (model thePw w) A c' R ⟨h',s.gens++(gs.map GenState.fresh).toArray,s.drawn,t',s.os⟩):Means thePw w A R b c t κ s:=by
 have D:=Rep.init (N:=N) as l C.hb hn ho C.top off
 have Ct:=mkE_ctxt (l:=lt) (kt:=kt) (w:=w) (ad:=adOf as s.heap) (t0:=s.toks) (G:=s.gens) C.hA C.hd C.lim
 have S:=fun hob hop hgood=>sound (R:=R) (h₀:=s.heap) (dr:=s.drawn) (os:=s.os) Ct.st Ct.g0 Ct.hA Ct.hd Ct.sp Ct.lim n b c t κ d (bt l) as.length 0 [] o [] [] s.heap hk hc hl hl2 hob hop hgood D
 have key:Means thePw w A R b c t κ (sh (mkE lt kt w (adOf as s.heap) s.toks s.gens.size) s.gens s.drawn s.os s.heap 0 []):=by
  revert e S
  unfold segRun
  generalize run (mkE lt kt w (adOf as s.heap) s.toks s.gens.size) n b c t κ d (bt l) as.length 0 [] o [] []=rs
  intro e S
  cases rs with
  | again c' κ' d' T' m' i gs ob op =>
   cases κ' with
   | nil =>
    simp only [Rs.agn0,Option.some.injEq,Prod.mk.injEq] at e
    obtain ⟨e1,e2,e3,e4⟩:=e
    subst e2
    exact S (fun p hp=>eq_all (show ob.map Prod.fst=ob.map Prod.snd from e4.symm) p hp) hop fun q1 q3 q4 h' D'=>hR h' _ c' T' m' gs e1 D' (Nat.le_add_right _ _)
   | cons _ _ _=>cases e
  | _=>cases e
 rw [sh_self _ s rfl] at key
 exact key
theorem seg_stq (C:Cx kt N 210 A s.heap) (as:List Nat) (l:List Obj) (hn:as.Nodup) (ho:as.map s.heap.get? = l.map some) (off:∀ a∈as,N≤a) (hk:κ.okc) (hc:c.isCaller=false) (hl:κ.len≤d) (hl2:κ.len≤42)
 (rs:Rs) (hrs:rs=segRun lt kt w as s l n b c t κ d o)
 (F:Code->Nat->BT->Nat->List Code->X) (e:rs.stq F=some (x,ops,rs.l1,rs.l1)) (hop:∀ p∈ops,p)
 (hR:∀ h' t' c' T' m' gs,F c' rs.sd T' m' gs=x->Rep kt (adOf as s.heap) s.heap h' T' m'->s.toks≤t'->rs.sκ.okc->rs.sc.isCaller=false->rs.sκ.len≤rs.sd->rs.sκ.len≤42 →
  codeAny (model thePw w) (arK A (.cons rs.sc rs.sk rs.sκ)) c' (fun r s'=>Means thePw w A R false rs.sc (rs.sk r) rs.sκ s') ⟨h',s.gens++(gs.map GenState.fresh).toArray,s.drawn,t',s.os⟩):Means thePw w A R b c t κ s:=by
 have D:=Rep.init (N:=N) as l C.hb hn ho C.top off
 have Ct:=mkE_ctxt (l:=lt) (kt:=kt) (w:=w) (ad:=adOf as s.heap) (t0:=s.toks) (G:=s.gens) C.hA C.hd C.lim
 have S:=fun hob hop hgood=>sound (R:=R) (h₀:=s.heap) (dr:=s.drawn) (os:=s.os) Ct.st Ct.g0 Ct.hA Ct.hd Ct.sp Ct.lim n b c t κ d (bt l) as.length 0 [] o [] [] s.heap hk hc hl hl2 hob hop hgood D
 have key:Means thePw w A R b c t κ (sh (mkE lt kt w (adOf as s.heap) s.toks s.gens.size) s.gens s.drawn s.os s.heap 0 []):=by
  unfold segRun at hrs
  rw [← hrs] at S
  clear hrs
  cases rs with
  | stop c' c₁ k κ' d' T' m' i gs ob op =>
   simp only [Rs.stq,Option.some.injEq,Prod.mk.injEq] at e
   obtain ⟨e1,e2,e3,e4⟩:=e
   subst e2
   exact S (fun p hp=>eq_all (show ob.map Prod.fst=ob.map Prod.snd from e4.symm) p hp) hop fun q1 q2 q3 q4 h' D'=>hR h' _ c' T' m' gs e1 D' (Nat.le_add_right _ _) q1 q2 q3 q4
  | _=>cases e
 rw [sh_self _ s rfl] at key
 exact key
theorem call_means {f:Nat} {args:List Value} (C:Cx kt N 210 A s.heap) (hp:(defAt kt f).isSome=true) (h:Means thePw w A R true (.call (.ref f) ⟨args,[]⟩) (callF f ⟨args,[]⟩ (defD kt f)) .nil s) :
 codeAny (model thePw w) A (.call (.ref f) ⟨args,[]⟩) R s :=
 call_of (mkE_ctxt (l:=Lt.zero) (ad:=adOf [] s.heap) (t0:=s.toks) (G:=s.gens) C.hA C.hd C.lim) C.hb hp h
end
end
noncomputable def runA (l:Lt) (kt:KT) (w:World) (ad:Nat->Nat) (t0 g0:Nat) (b r:Nat->Int) (tb tr:Nat->Nat) (n n':Nat):Rs:=callT (mkE l kt w ad t0 g0) 580 251 [.ref (ad 0),.ref (ad 1)] (bt [l3 b tb n,l3 r tr n']) 2 zo39
noncomputable def stopCode:Rs->Code
 | .stop c' _ _ _ _ _ _ _ _ _ _=>c'
 | _=>default
noncomputable def adA (g:Nat->Nat) (L it:Nat) (j:Nat):Nat:=match Nat.beq j 2 with
 | true=>L
 | false=>match Nat.beq j 18 with
  | true=>it
  | false=>g j
theorem adA_self (g:Nat->Nat):adA g (g 2) (g 18)=g:=by
 funext j
 unfold adA
 cases h:Nat.beq j 2 with
 | true=>rw [Nat.eq_of_beq_eq_true h]
 | false=>cases h:Nat.beq j 18 with
  | true=>rw [Nat.eq_of_beq_eq_true h]
  | false=>rfl
noncomputable def LC (kt:KT) (w:World) (g:Nat->Nat) (L it:Nat):Code:=stopCode (runA Lt.zero kt w (adA g L it) 0 0 (fun _=>0) (fun _=>0) (fun _=>0) (fun _=>0) 0 0)
noncomputable abbrev oFrame (es:List DictEntry) (n:Nat):Obj:=⟨.type PySem.W.SL.s658472552662922059x5,none,.dict ⟨es⟩ n,#[]⟩
noncomputable abbrev oRit (vs:List Value):Obj:=⟨.type PySem.W.SL.s15992201931430999065x14,none,.fields ⟨vs⟩,#[]⟩
noncomputable abbrev ky (P:Params) (x:Str) (t:Nat) (v:Value):DictEntry:=⟨PyData.keyHash P x,.str x t,v⟩
noncomputable abbrev sSize:Str:=⟨⟨[95,105,110,105,116,105,97,108,95,115,105,122,101]⟩⟩
noncomputable abbrev sSigns:Str:=⟨⟨[60,62,61,46,37]⟩⟩
noncomputable abbrev nBegin:Str:=⟨⟨[98,101,103,105,110]⟩⟩
noncomputable abbrev nRule:Str:=⟨⟨[114,117,108,101]⟩⟩
noncomputable abbrev nSigns:Str:=⟨⟨[115,105,103,110,115]⟩⟩
noncomputable abbrev nRegister:Str:=⟨⟨[114,101,103,105,115,116,101,114]⟩⟩
noncomputable abbrev nNumber:Str:=⟨⟨[110,117,109,98,101,114]⟩⟩
noncomputable abbrev nTold:Str:=⟨⟨[116,111,108,100]⟩⟩
noncomputable abbrev nTurn:Str:=⟨⟨[116,117,114,110]⟩⟩
noncomputable abbrev nCells:Str:=⟨⟨[99,101,108,108,115]⟩⟩
noncomputable abbrev nLater:Str:=⟨⟨[108,97,116,101,114]⟩⟩
structure TL where
 τ:Nat->Nat
 pb:Nat
 pc:Nat
 pl:Nat
 nv:Int
 told:Str
 tv:Int
 c:Nat->Str
 r:Nat->Int
 k:Int
 v:Nat->Nat
noncomputable def tFrame (P:Params) (ad:Nat->Nat) (x:TL):Obj:=oFrame [ky P nBegin (x.τ 0) (.ref x.pb),ky P nRule (x.τ 1) (.ref (ad 6)),ky P nSigns (x.τ 2) (.str sSigns (x.τ 3)),ky P nRegister (x.τ 4) (.ref (ad 1)),ky P nNumber (x.τ 5) (.int x.nv (x.τ 6)),ky P nTold (x.τ 7) (.str x.told (x.τ 8)),ky P nTurn (x.τ 9) (.int x.tv (x.τ 10)),ky P nCells (x.τ 11) (.ref x.pc),ky P nLater (x.τ 12) (.ref x.pl)] 9
noncomputable def tFrame1 (P:Params) (ad:Nat->Nat) (x:TL):Obj:=oFrame [ky P nBegin (x.τ 0) (.ref x.pb),ky P nRule (x.τ 1) (.ref (ad 6)),ky P nSigns (x.τ 2) (.str sSigns (x.τ 3)),ky P nRegister (x.τ 4) (.ref (ad 1)),ky P nNumber (x.τ 5) (.int x.nv (x.τ 6)),ky P nTold (x.τ 7) (.str ⟨⟨[]⟩⟩ (x.τ 8))] 6
noncomputable def cTup (c:Str) (t u:Nat):Obj:=oTup [.str ⟨⟨[]⟩⟩ t,.str c u]
noncomputable def turnB (P:Params) (ad:Nat->Nat) (x:TL) (m:Nat):List Obj:=[oInst 206 (ad 2) [.ref (ad 3),.ref (ad 4),.ref (ad 5)] (x.v 0),oDict [ky P sSize (x.τ 13) (.int 0 (x.τ 14))] (x.v 1),
 cTup (x.c 0) (x.τ 15) (x.τ 16),cTup (x.c 1) (x.τ 17) (x.τ 18),cTup (x.c 2) (x.τ 19) (x.τ 20),l3 x.r (fun i=>x.τ (21 + i)) (x.v 2),oRit [.int x.k (x.τ 24),.int (Int.ofNat m) (x.τ 25),.int 1 (x.τ 26)]]
noncomputable def turnL (P:Params) (ad:Nat->Nat) (x:TL) (m:Nat):List Obj:=tFrame P ad x::turnB P ad x m
noncomputable def turnL1 (P:Params) (ad:Nat->Nat) (x:TL) (m:Nat):List Obj:=tFrame1 P ad x::turnB P ad x m
noncomputable def turnR (l:Lt) (kt:KT) (w:World) (g ad:Nat->Nat) (t0 g0:Nat) (L:List Obj) (n o:Nat):Rs:=run (mkE l kt w ad t0 g0) n false (LC kt w g (ad 0) (ad 7)) (denF (LC kt w g (ad 0) (ad 7))) .nil 0 (bt L) 8 0 [] o [] []
noncomputable def oTurn (b:Bool):Nat:=match b with
 | true=>zo40
 | false=>zo41
noncomputable def oTurn1 (b:Bool):Nat:=match b with
 | true=>zo42
 | false=>zo43
noncomputable def oRunC (b:Bool):Nat:=match b with
 | true=>zo44
 | false=>zo45
noncomputable def turnF (c:Code) (T:BT) (_:Nat) (_:List Code):Code×Option Obj×Option Obj×Option Obj×Option Obj×Option Obj×Option Obj×Option Obj×Option Obj:=(c,T.get 0,T.get 1,T.get 2,T.get 4,T.get 5,T.get 23,T.get 6,T.get 7)
noncomputable def turnX (P:Params) (ad:Nat->Nat) (t0:Nat) (x:TL) (m:Nat) (told z:Str) (tt:Nat) (c:Code):Code×Option Obj×Option Obj×Option Obj×Option Obj×Option Obj×Option Obj×Option Obj×Option Obj:=(c,
 some (oFrame [ky P nBegin (x.τ 0) (.ref x.pb),ky P nRule (x.τ 1) (.ref (ad 6)),ky P nSigns (x.τ 2) (.str sSigns (x.τ 3)),ky P nRegister (x.τ 4) (.ref (ad 1)),ky P nNumber (x.τ 5) (.int x.nv (x.τ 6)),ky P nTold (x.τ 7) (.str told tt),ky P nTurn (x.τ 9) (.int x.k (t0 + 0)),ky P nCells (x.τ 11) (.ref (ad 9)),ky P nLater (x.τ 12) (.ref (ad 26))] 9),
 some (oInst 206 (ad 2) [.ref (ad 4),.ref (ad 5),.ref (ad 23)] (x.v 0 + 4)),some (oDict [ky P sSize (x.τ 13) (.int 0 (t0 + x.v 3))] (x.v 1)),
 some (cTup (x.c 1) (x.τ 17) (x.τ 18)),some (cTup (x.c 2) (x.τ 19) (x.τ 20)),some (cTup z (t0 + 18) (t0 + 32)),some (l3 x.r (fun i=>x.τ (21 + i)) (x.v 2)),some (oRit [.int (x.k + 1) 0,.int (Int.ofNat (m + 1) - 1) 0,.int 1 (x.τ 26)]))
noncomputable def turnO (l:Lt) (kt:KT) (w:World) (ad:Nat->Nat) (x:TL) (q:List Prop):List Prop:=(¬ (ad 1)=(ad 26))::q++[True,True,True,True,¬ (ad 1)=(ad 27),sOk sSigns ((x.r 0 * (l.il 10 - 20) + x.r 1 * (l.il 11 - 20) + x.r 2 * (l.il 12 - 20)).fmod 5) (l.sl 13),
 IntMulOk (x.r 2) (l.il 12 - 20),IntMulOk (x.r 1) (l.il 11 - 20),IntMulOk (x.r 0) (l.il 10 - 20),dGet kt w 211 (x.c 2) (.int (l.il 12) (l.tk 12)),dGet kt w 211 (x.c 1) (.int (l.il 11) (l.tk 11)),dGet kt w 211 (x.c 0) (.int (l.il 10) (l.tk 10))]
noncomputable def TL.v3 (x:TL) (n:Nat):TL:={ x with v:=fun i=>match i with | 3=>n | i=>x.v i }
noncomputable def TL.first (x:TL) (t0:Nat):TL:={ x with τ:=fun i=>match i with | 9=>t0 + 1 | 11=>t0 + 17 | 12=>t0 + 40 | i=>x.τ i }
noncomputable def runAF (c:Code) (d:Nat) (T:BT) (_:Nat) (_:List Code):Nat×Code×Option Obj×Option Obj×Option Obj×Option Obj×Option Obj×Option Obj×Option Obj×Option Obj×Option Obj:=(d,c,T.get 2,T.get 4,T.get 3,T.get 10,T.get 12,T.get 14,T.get 1,T.get 18,T.get 0)
noncomputable def runAx (ad:Nat->Nat) (t0:Nat) (b:Nat->Int) (r:Nat->Int) (tb tr:Nat->Nat) (n':Nat) (l:Lt):TL where
 τ:=fun i=>match i with | 0=>t0 + 0 | 1=>t0 + 1 | 2=>t0 + 3 | 3=>t0 + 2 | 4=>t0 + 9 | 5=>t0 + 10 | 6=>tb 2 | 7=>t0 + 29 | 8=>t0 + 28 | 13=>t0 + 7 | 14=>380 | 15=>t0 + 11 | 16=>t0 + 12 | 17=>t0 + 17 | 18=>t0 + 18 | 19=>t0 + 23 | 20=>t0 + 24 | 21=>tr 0 | 22=>tr 1 | 23=>tr 2 | 24=>0 | 25=>0 | _=>0
 pb:=ad 0
 pc:=0
 pl:=0
 nv:=b 2
 told:=⟨⟨[]⟩⟩
 tv:=0
 c:=fun i=>l.sl (10 + i)
 r:=r
 k:=0
 v:=fun i=>match i with | 0=>3 | 1=>1 | 2=>n' | _=>0
noncomputable def adT (ad:Nat->Nat):Nat->Nat
 | 0=>ad 2
 | 1=>ad 4
 | 2=>ad 3
 | 3=>ad 10
 | 4=>ad 12
 | 5=>ad 14
 | 6=>ad 1
 | _=>ad 18
noncomputable def runAX (P:Params) (ad:Nat->Nat) (x:TL) (l0:Obj) (c:Code):Nat×Code×Option Obj×Option Obj×Option Obj×Option Obj×Option Obj×Option Obj×Option Obj×Option Obj×Option Obj:=(0,c,
 some (tFrame1 P (adT ad) x),some (oInst 206 (ad 3) [.ref (ad 10),.ref (ad 12),.ref (ad 14)] 3),some (oDict [ky P sSize (x.τ 13) (.int 0 (x.τ 14))] 1),some (cTup (x.c 0) (x.τ 15) (x.τ 16)),some (cTup (x.c 1) (x.τ 17) (x.τ 18)),some (cTup (x.c 2) (x.τ 19) (x.τ 20)),some (l3 x.r (fun i=>x.τ (21 + i)) (x.v 2)),
 some (oRit [.int 0 0,.int (Int.ofNat 31) 0,.int 1 0]),some l0)
noncomputable def runAO (l:Lt) (b:Nat->Int):List Prop:=[sOk sSigns (b 2) (l.sl 12),sOk sSigns (b 1) (l.sl 11),sOk sSigns (b 0) (l.sl 10),True,True,True]
noncomputable def runC (l:Lt) (kt:KT) (w:World) (g:Nat->Nat) (it:Nat) (l0:Lt) (t0 g0:Nat) (b r:Nat->Int) (tb tr:Nat->Nat) (n n':Nat) (ad:Nat->Nat) (t1 g1:Nat) (x:TL):Rs :=
 run (mkE l kt w ad t1 g1) 370 false (runA l0 kt w (adA g (ad 0) it) t0 g0 b r tb tr n n').sc ((runA l0 kt w (adA g (ad 0) it) t0 g0 b r tb tr n n').sk (.ok .next)) (runA l0 kt w (adA g (ad 0) it) t0 g0 b r tb tr n n').sκ (runA l0 kt w (adA g (ad 0) it) t0 g0 b r tb tr n n').sd (bt (turnL w.params ad x 0)) 8 0 [] (oRunC (rowC w)) [] []
noncomputable def runCF (r:Result) (T:BT) (_:Nat) (_:List Code):Option Nat×Option Obj×Option Obj×Option Obj:=(refOf r,T.get 22,T.get 6,T.get 9)
noncomputable def runCX (ad:Nat->Nat) (l:Lt) (t1:Nat) (x:TL):Option Nat×Option Obj×Option Obj×Option Obj:=(some (ad 22),some (oTup [.str x.told (x.τ 8),.ref (ad 9)]),some (l3 x.r (fun i=>x.τ (21 + i)) (x.v 2)),some (l3 (fun i=>l.il (10 + i) - 20) (fun i=>match i with | 0=>t1 + 4 | 1=>t1 + 9 | _=>t1 + 14) 3))
noncomputable def runCO (l:Lt) (kt:KT) (w:World) (x:TL):List Prop:=[dGet kt w 211 (x.c 2) (.int (l.il 12) (l.tk 12)),dGet kt w 211 (x.c 1) (.int (l.il 11) (l.tk 11)),dGet kt w 211 (x.c 0) (.int (l.il 10) (l.tk 10))]
noncomputable def turn0F (r:Result) (T:BT) (_:Nat) (_:List Code):Option Unit×Option Obj×Option Obj×Option Obj×Option Obj×Option Obj×Option Obj×Option Obj×Option Obj:=((match r with | .ok .next=>some () | _=>none),T.get 0,T.get 1,T.get 2,T.get 3,T.get 4,T.get 5,T.get 6,T.get 7)
noncomputable def turn0X (P:Params) (ad:Nat->Nat) (x:TL):Option Unit×Option Obj×Option Obj×Option Obj×Option Obj×Option Obj×Option Obj×Option Obj×Option Obj:=(some (),some (tFrame P ad x),some (oInst 206 (ad 2) [.ref (ad 3),.ref (ad 4),.ref (ad 5)] (x.v 0)),some (oDict [ky P sSize (x.τ 13) (.int 0 (x.τ 14))] (x.v 1)),
 some (cTup (x.c 0) (x.τ 15) (x.τ 16)),some (cTup (x.c 1) (x.τ 17) (x.τ 18)),some (cTup (x.c 2) (x.τ 19) (x.τ 20)),some (l3 x.r (fun i=>x.τ (21 + i)) (x.v 2)),some (oRit [.int x.k (x.τ 24),.int (Int.ofNat 0) (x.τ 25),.int 1 (x.τ 26)]))
structure RunK (kt:Params->KT):Prop where
 def_:∀ P,(defAt (kt P) 251).isSome=true
 plain:∀ (w:World) g L it,callerF (LC (kt w.params) w g L it)=false
 seg:∀ (w:World) l ad t0 g0 b r tb tr n n',(runA l (kt w.params) w ad t0 g0 b r tb tr n n').stq runAF=some (runAX w.params ad (runAx ad t0 b r tb tr n' l) (l3 b tb n) (LC (kt w.params) w ad (ad 2) (ad 18)),runAO l b,(runA l (kt w.params) w ad t0 g0 b r tb tr n n').l1,(runA l (kt w.params) w ad t0 g0 b r tb tr n n').l1)
 one:∀ (w:World) l g ad t0 g0 x m,(turnR l (kt w.params) w g ad t0 g0 (turnL1 w.params ad x (m + 1)) 1040 (oTurn1 (rowC w))).agn0 turnF=some (turnX w.params ad t0 ((x.first t0).v3 51) m (x.c 0) (l.sl 13) (x.τ 16) (LC (kt w.params) w g (ad 0) (ad 7)),turnO l (kt w.params) w ad x [],(turnR l (kt w.params) w g ad t0 g0 (turnL1 w.params ad x (m + 1)) 1040 (oTurn1 (rowC w))).l1,(turnR l (kt w.params) w g ad t0 g0 (turnL1 w.params ad x (m + 1)) 1040 (oTurn1 (rowC w))).l1)
 turn:∀ (w:World) l g ad t0 g0 x m,(turnR l (kt w.params) w g ad t0 g0 (turnL w.params ad x (m + 1)) 1040 (oTurn (rowC w))).agn0 turnF=some (turnX w.params ad t0 (x.v3 52) m (l.sl 14) (l.sl 13) (t0 + 48) (LC (kt w.params) w g (ad 0) (ad 7)),turnO l (kt w.params) w ad x [aOk x.told (x.c 0) (l.sl 14)],(turnR l (kt w.params) w g ad t0 g0 (turnL w.params ad x (m + 1)) 1040 (oTurn (rowC w))).l1,(turnR l (kt w.params) w g ad t0 g0 (turnL w.params ad x (m + 1)) 1040 (oTurn (rowC w))).l1)
 out:∀ (w:World) l g ad t0 g0 x,(turnR l (kt w.params) w g ad t0 g0 (turnL w.params ad x 0) 25 0xa08080800080008).dn turn0F=some (turn0X w.params ad x,[],(turnR l (kt w.params) w g ad t0 g0 (turnL w.params ad x 0) 25 0xa08080800080008).l1,(turnR l (kt w.params) w g ad t0 g0 (turnL w.params ad x 0) 25 0xa08080800080008).l1)
 last:∀ (w:World) l g it l0 t0 g0 b r tb tr n n' ad t1 g1 x,(runC l (kt w.params) w g it l0 t0 g0 b r tb tr n n' ad t1 g1 x).dn runCF=some (runCX ad l t1 x,runCO l (kt w.params) w x,(runC l (kt w.params) w g it l0 t0 g0 b r tb tr n n' ad t1 g1 x).l1,(runC l (kt w.params) w g it l0 t0 g0 b r tb tr n n' ad t1 g1 x).l1)
section
theorem next_as {kt:KT} {ad:Nat->Nat} {h₀ h:Heap} {T:BT} {m:Nat} (D:Rep kt ad h₀ h T m) (js:List Nat) (os:List Obj) (e:js.map T.get=os.map some) (hn:js.Nodup):(js.map ad).Nodup∧(js.map ad).map h.get? = os.map some:=by
 have hat:∀ j∈js,∃ x,T.get j=some x:=fun j hj=>by
  obtain ⟨i,hi,rfl⟩:=List.mem_iff_getElem.mp hj
  have z:=congrArg (fun l:List (Option Obj)=>l[i]?) e
  simp only [List.getElem?_map,List.getElem?_eq_getElem hi,Option.map_some] at z
  cases q:os[i]? with
  | none=>rw [q] at z; cases z
  | some y=>rw [q] at z; simp only [Option.map_some,Option.some.injEq] at z; exact ⟨y,z⟩
 refine ⟨?_,?_⟩
 · rw [List.nodup_iff_pairwise_ne] at hn ⊢
   rw [List.pairwise_map]
   refine hn.imp_of_mem fun {a b} ha hb hab q=>hab ?_
   obtain ⟨x,hx⟩:=hat a ha
   obtain ⟨y,hy⟩:=hat b hb
   exact D.inj a b (D.own a x hx).1 (D.own b y hy).1 q
 · rw [← e,List.map_map]
   refine List.map_congr_left fun j hj=>?_
   obtain ⟨x,hx⟩:=hat j hj
   show h.get? (ad j)=T.get j
   rw [hx]
   exact (D.own j x hx).2
noncomputable def sg (d:Int):Nat:=[60,62,61,46,37].getD d.toNat 0
noncomputable def tx (l:List Int):Str:=⟨(l.map sg).toArray⟩
theorem tx_app (l:List Int) (d:Int):tx l++tx [d]=tx (l++[d]):=by
 show (⟨(l.map sg).toArray++([d].map sg).toArray⟩:Str)=⟨((l++[d]).map sg).toArray⟩
 rw [List.map_append,List.append_toArray]
theorem tx_len (l:List Int):(tx l).length=l.length:=by
 show ((l.map sg).toArray).size=l.length
 simp
theorem aOk_tx {l:List Int} {d:Int} (h:l ≠ []) (hl:l.length + 1≤sizeLine):aOk (tx l) (tx [d]) (tx (l++[d])):=by
 refine ⟨?_,rfl,?_,(tx_app l d).symm⟩
 · rw [tx_len]
   cases l with
   | nil=>exact absurd rfl h
   | cons a l=>rfl
 · rw [tx_app,tx_len,List.length_append]; exact hl
theorem sOk_tx {d:Int} (h0:0≤d) (h5:d<5):sOk sSigns d (tx [d]):=by
 have:d=0∨d=1∨d=2∨d=3∨d=4:=by exact om216 h0 h5
 rcases this with rfl | rfl | rfl | rfl | rfl <;> exact ⟨by decide,_,rfl,rfl⟩
noncomputable def Tab (kt:KT) (w:World):Prop:=∀ d:Int,0≤d->d<5->∃ tk,dGet kt w 211 (tx [d]) (.int (20 + d) tk)
noncomputable def runLt (c:Nat->Int) (tk:Nat->Nat) (z y:Str):Lt where
 fl:=fun _=>0
 il:=fun q=>match q with | 10=>20 + c 0 | 11=>20 + c 1 | _=>20 + c 2
 tk:=fun q=>match q with | 10=>tk 0 | 11=>tk 1 | _=>tk 2
 sl:=fun q=>match q with | 13=>z | _=>y
noncomputable def Lp (P:Params) (fi:Bool) (ad:Nat->Nat) (x:TL) (m:Nat):List Obj:=match fi with
 | true=>turnL1 P ad x m
 | false=>turnL P ad x m
noncomputable def TSt (P:Params) (N n0:Nat) (h:Heap) (q:Nat->Nat) (fi:Bool) (r:Nat->Int) (told:List Int) (c:Nat->Int) (m:Nat):Prop :=
 ∃ p0 p1 p2 x,[q 0,q 1,q 2,p0,p1,p2,q 6,q 7].Nodup∧(N≤q 6∧∀ a∈[q 0,q 1,q 2,p0,p1,p2,q 7],n0≤a)∧[q 0,q 1,q 2,p0,p1,p2,q 6,q 7].map h.get? = (Lp P fi (adOf [q 0,q 1,q 2,p0,p1,p2,q 6,q 7] h) x m).map some∧x.r=r∧x.c=(fun i=>tx [c i])∧x.told=tx told
noncomputable def nx (r c:Nat->Int):Nat->Int:=v3 (c 1) (c 2) ((r 0 * c 0 + r 1 * c 1 + r 2 * c 2).fmod 5)
noncomputable def tell (r:Nat->Int):Nat->List Int->(Nat->Int)->List Int×(Nat->Int)
 | 0,t,c=>(t,c)
 | m + 1,t,c=>tell r m (t++[c 0]) (nx r c)
noncomputable def KeepsTo (n0:Nat) (h h':Heap):Prop:=∀ (b:Nat) o,b<n0->h.get? b=some o->h'.get? b=some o
theorem nx_sm {r c:Nat->Int} (h:Sm c):Sm (nx r c):=fun i=>by
 unfold nx v3
 split
 · exact h 1
 · exact h 2
 · exact ⟨Int.fmod_nonneg_of_pos _ (by decide),Int.fmod_lt_of_pos _ (by decide)⟩
theorem fmod5 (x:Int):0≤x.fmod 5∧x.fmod 5<5:=⟨Int.fmod_nonneg_of_pos _ (by decide),Int.fmod_lt_of_pos _ (by decide)⟩
section
variable {kt:Params->KT} {w:World} {A:Around} {R:Result->Shared->Prop} {N n0:Nat} {q:Nat->Nat} {r c:Nat->Int} {told:List Int}
theorem turnO_ok {l:Lt} {ad:Nat->Nat} {x:TL} {Q:List Prop} {tk:Nat->Nat} {c:Nat->Int} {y:Str} (hc:Sm c) (hr:∀ i,-100000<r i∧r i<100000) (hl:l=runLt c tk (tx [(r 0 * c 0 + r 1 * c 1 + r 2 * c 2).fmod 5]) y)
 (ht:∀ i,i<3->dGet (kt w.params) w 211 (tx [c i]) (.int (20 + c i) (tk i))) (xr:x.r=r) (xc:x.c=fun i=>tx [c i]) (h1:¬ ad 1=ad 26) (h2:¬ ad 1=ad 27) (hQ:∀ p∈Q,p):∀ p∈turnO l (kt w.params) w ad x Q,p:=by
 subst hl
 have e0:(runLt c tk (tx [(r 0 * c 0 + r 1 * c 1 + r 2 * c 2).fmod 5]) y).il 10 - 20=c 0:=by show 20 + c 0 - 20=c 0; exact om167
 have e1:(runLt c tk (tx [(r 0 * c 0 + r 1 * c 1 + r 2 * c 2).fmod 5]) y).il 11 - 20=c 1:=by show 20 + c 1 - 20=c 1; exact om167
 have e2:(runLt c tk (tx [(r 0 * c 0 + r 1 * c 1 + r 2 * c 2).fmod 5]) y).il 12 - 20=c 2:=by show 20 + c 2 - 20=c 2; exact om167
 intro p hp
 unfold turnO at hp
 rw [e0,e1,e2,xr,xc] at hp
 simp only [List.cons_append,List.mem_cons,List.mem_append,List.not_mem_nil,or_false] at hp
 rcases hp with rfl | hp | rfl | rfl | rfl | rfl | rfl | rfl | rfl | rfl | rfl | rfl | rfl | rfl
 · exact h1
 · exact hQ p hp
 · trivial
 · trivial
 · trivial
 · trivial
 · exact h2
 · exact sOk_tx (fmod5 _).1 (fmod5 _).2
 · exact mulOk (hr 2).1 (hr 2).2
 · exact mulOk (hr 1).1 (hr 1).2
 · exact mulOk (hr 0).1 (hr 0).2
 · exact ht 2 (by decide)
 · exact ht 1 (by decide)
 · exact ht 0 (by decide)
theorem tk_of (ht:Tab (kt w.params) w) (hc:Sm c):∃ tk:Nat->Nat,∀ i,i<3->dGet (kt w.params) w 211 (tx [c i]) (.int (20 + c i) (tk i)) :=
 ⟨fun i=>(ht (c i) (hc i).1 (hc i).2).choose,fun i _=>(ht (c i) (hc i).1 (hc i).2).choose_spec⟩
theorem turn_next {P:Params} {kt:KT} {h h':Heap} {as:List Nat} {T:BT} {m' m:Nat} {x:TL} {t0:Nat} {c c':Nat->Int} {told:List Int} {tt:Nat} {d:Int} (D:Rep kt (adOf as h) h h' T m') {p0 p1 p2:Nat} (has:as=[q 0,q 1,q 2,p0,p1,p2,q 6,q 7])
 (off6:N≤q 6) (off:∀ a∈[q 0,q 1,q 2,p0,p1,p2,q 7],n0≤a) (h6:h.get? (q 6)=some (l3 x.r (fun i=>x.τ (21 + i)) (x.v 2))) (lo:q 0<h.objs.size) (xr:x.r=r) (xc:x.c=fun i=>tx [c i]) (hc':c'=v3 (c 1) (c 2) d) {cc cc':Code}
 (e:turnF cc T m' []=turnX P (adOf as h) t0 x m (tx told) (tx [d]) tt cc'):TSt P N n0 h' q false r told c' m∧KeepsTo n0 h h'∧cc=cc':=by
 have hm:Int.ofNat (m + 1) - 1=Int.ofNat m:=by show ((m + 1:Nat):Int) - 1=(m:Int); exact om164
 unfold turnF turnX at e
 rw [hm] at e
 simp only [Prod.mk.injEq] at e
 obtain ⟨ec,e0,e1,e2,e4,e5,e23,e6,e7⟩:=e
 have z:=next_as D [0,1,2,4,5,23,6,7] _ (show _=List.map some [_,_,_,_,_,_,_,_] by
  simp only [List.map_cons,List.map_nil]
  rw [e0,e1,e2,e4,e5,e23,e6,e7]) (by decide)
 have a23:adOf as h 23=h.objs.size + 15:=by rw [has]; exact adOf_high (show 8≤23 by decide)
 have ads:[0,1,2,4,5,23,6,7].map (adOf as h)=[q 0,q 1,q 2,p1,p2,adOf as h 23,q 6,q 7]:=by rw [has]; rfl
 rw [ads] at z
 refine ⟨⟨p1,p2,adOf as h 23,{ x with
  τ:=fun i=>match i with
   | 8=>tt
   | 10=>t0 + 0
   | 14=>t0 + x.v 3
   | 15=>x.τ 17
   | 16=>x.τ 18
   | 17=>x.τ 19
   | 18=>x.τ 20
   | 19=>t0 + 18
   | 20=>t0 + 32
   | 24=>0
   | 25=>0
   | i=>x.τ i
  pc:=adOf as h 9
  pl:=adOf as h 26
  told:=tx told
  tv:=x.k
  k:=x.k + 1
  v:=fun i=>match i with | 0=>x.v 0 + 4 | i=>x.v i
  c:=fun i=>tx [c' i] },z.1,⟨off6,?_⟩,?_,xr,rfl,rfl⟩,?_,ec⟩
 · intro a ha
   simp only [List.mem_cons,List.not_mem_nil,or_false] at ha
   have o0:n0≤q 0:=off _ (by simp)
   rcases ha with rfl | rfl | rfl | rfl | rfl | rfl | rfl
   · exact o0
   · exact off _ (by simp)
   · exact off _ (by simp)
   · exact off _ (by simp)
   · exact off _ (by simp)
   · rw [a23]; exact om244 lo o0
   · exact off _ (by simp)
 · rw [z.2,xc,hc',has]
   rfl
 · intro b o hb hbo
   refine D.frame hbo fun j hj=>?_
   by_cases hj6:j=6
   · subst hj6
     rw [has] at hj
     injection hj with hj
     rw [← hj,h6] at hbo
     rw [e6]; exact hbo
   · exfalso
     have:b∈[q 0,q 1,q 2,p0,p1,p2,q 7]:=by
      rw [has] at hj
      match j,hj6,hj with
      | 0,_,hj | 1,_,hj | 2,_,hj | 3,_,hj | 4,_,hj | 5,_,hj | 7,_,hj=>injection hj with hj; rw [← hj]; simp
      | 6,h,_=>exact absurd rfl h
     exact absurd hb (Nat.not_lt.mpr (off _ this))
theorem offN (hN:N≤n0) (h6:N≤q 6) {p0 p1 p2:Nat} (off:∀ a∈[q 0,q 1,q 2,p0,p1,p2,q 7],n0≤a):∀ a∈[q 0,q 1,q 2,p0,p1,p2,q 6,q 7],N≤a:=by
 intro a ha
 simp only [List.mem_cons,List.not_mem_nil,or_false] at ha
 rcases ha with rfl | rfl | rfl | rfl | rfl | rfl | rfl | rfl
 · exact Nat.le_trans hN (off _ (by simp))
 · exact Nat.le_trans hN (off _ (by simp))
 · exact Nat.le_trans hN (off _ (by simp))
 · exact Nat.le_trans hN (off _ (by simp))
 · exact Nat.le_trans hN (off _ (by simp))
 · exact Nat.le_trans hN (off _ (by simp))
 · exact h6
 · exact Nat.le_trans hN (off _ (by simp))
theorem plainC (K:RunK kt) {g:Nat->Nat} {L it:Nat}:(LC (kt w.params) w g L it).isCaller=false:=by
 rw [show (LC (kt w.params) w g L it).isCaller=callerF (LC (kt w.params) w g L it) from congrFun callerF_eq _]
 exact K.plain w g L it
theorem keepsTo {kt:KT} {h h':Heap} {T:BT} {m':Nat} {p0 p1 p2:Nat} (D:Rep kt (adOf [q 0,q 1,q 2,p0,p1,p2,q 6,q 7] h) h h' T m') (off:∀ a∈[q 0,q 1,q 2,p0,p1,p2,q 7],n0≤a) (h6:∀ x,h.get? (q 6)=some x->T.get 6=some x):KeepsTo n0 h h':=by
 intro b o hb hbo
 refine D.frame hbo fun j hj=>?_
 by_cases hj6:j=6
 · subst hj6
   injection hj with hj
   exact h6 o (by rw [hj]; exact hbo)
 · exfalso
   have:b∈[q 0,q 1,q 2,p0,p1,p2,q 7]:=by
    match j,hj6,hj with
    | 0,_,hj | 1,_,hj | 2,_,hj | 3,_,hj | 4,_,hj | 5,_,hj | 7,_,hj=>injection hj with hj; rw [← hj]; simp
    | 6,h,_=>exact absurd rfl h
   exact absurd hb (Nat.not_lt.mpr (off _ this))
theorem a1_ne {h:Heap} {L:List Obj} {p0 p1 p2 j:Nat} (nd:[q 0,q 1,q 2,p0,p1,p2,q 6,q 7].Nodup) (ho:[q 0,q 1,q 2,p0,p1,p2,q 6,q 7].map h.get? = L.map some) (hj:decide (8≤j)=true):¬ adOf [q 0,q 1,q 2,p0,p1,p2,q 6,q 7] h 1=adOf [q 0,q 1,q 2,p0,p1,p2,q 6,q 7] h j:=by
 intro e
 have h8:8≤j:=of_decide_eq_true hj
 rw [adOf_high (j:=j) (show [q 0,q 1,q 2,p0,p1,p2,q 6,q 7].length≤j from h8)] at e
 have e1:adOf [q 0,q 1,q 2,p0,p1,p2,q 6,q 7] h 1=q 1:=rfl
 have:q 1<h.objs.size:=by
  have z:=congrArg (fun l:List (Option Obj)=>l[1]?) ho
  simp only [List.map_cons,List.getElem?_cons_succ,List.getElem?_cons_zero,List.getElem?_map] at z
  cases q':L[1]? with
  | none=>rw [q'] at z; cases z
  | some y=>rw [q'] at z; exact Heap.lt_size (Option.some.inj z)
 exact om245 e e1 this
theorem loop_c (K:RunK kt) {g:Nat->Nat} (ht:Tab (kt w.params) w) (hr:∀ i,-100000<r i∧r i<100000):∀ (m:Nat) (told:List Int) (c:Nat->Int) (s:Shared),Cx (kt w.params) N 210 A s.heap->N≤n0->TSt w.params N n0 s.heap q false r told c m->told ≠ []->told.length + m + 1≤sizeLine->Sm c →
 (∀ h' G' t',TSt w.params N n0 h' q false r (tell r m told c).1 (tell r m told c).2 0->KeepsTo n0 s.heap h'->(kt w.params).Holds h' 1 0->GB s.gens G'->R (.ok .next) ⟨h',G',s.drawn,t',s.os⟩) →
 codeAny (model thePw w) A (LC (kt w.params) w g (q 0) (q 7)) R s:=by
 intro m
 induction m with
 | zero =>
  intro told c s C hN ZZ _ _ hc hR
  obtain ⟨p0,p1,p2,x,nd,⟨off6,off⟩,ho,xr,xc,xt⟩:=ZZ
  have lo:q 0<s.heap.objs.size:=by
   have:=congrArg List.head? ho
   exact Heap.lt_size (Option.some.inj this)
  refine code_of ?_
  refine seg_dn C [q 0,q 1,q 2,p0,p1,p2,q 6,q 7] _ nd ho (offN hN off6 off) trivial (plainC K) (Nat.zero_le _) (Nat.zero_le _) turn0F (K.out w Lt.zero g _ s.toks s.gens.size x) (fun p h=>nomatch h) ?_
  intro h' t' rr T' m' gs e D _
  unfold turn0F turn0X at e
  simp only [Prod.mk.injEq] at e
  obtain ⟨er,e0,e1,e2,e3,e4,e5,e6,e7⟩:=e
  have hrr:rr = .ok .next:=by
   split at er
   · rfl
   · cases er
  subst hrr
  have z:=next_as D [0,1,2,3,4,5,6,7] _ (show _=List.map some [_,_,_,_,_,_,_,_] by
   simp only [List.map_cons,List.map_nil]
   rw [e0,e1,e2,e3,e4,e5,e6,e7]) (by decide)
  have k:=keepsTo D off (fun x e=>by
   have h6:s.heap.get? (q 6)=some _:=Option.some.inj (congrArg (fun l:List (Option Obj)=>l[6]?) ho)
   exact e6.trans (h6.symm.trans e))
  exact hR h' _ t' ⟨p0,p1,p2,x,nd,⟨off6,off⟩,z.2,xr,xc,xt⟩ k D.base (GB.app _ _)
 | succ m ih =>
  intro told c s C hN ZZ hne hsz hc hR
  obtain ⟨p0,p1,p2,x,nd,⟨off6,off⟩,ho,xr,xc,xt⟩:=ZZ
  obtain ⟨tk,htk⟩:=tk_of (kt:=kt) (w:=w) ht hc
  refine code_of ?_
  have k:=K.turn w (runLt c tk (tx [(r 0 * c 0 + r 1 * c 1 + r 2 * c 2).fmod 5]) (tx (told++[c 0]))) g (adOf [q 0,q 1,q 2,p0,p1,p2,q 6,q 7] s.heap) s.toks s.gens.size x m
  have lo:q 0<s.heap.objs.size:=by
   have:=congrArg List.head? ho
   exact Heap.lt_size (Option.some.inj this)
  refine seg_agn C [q 0,q 1,q 2,p0,p1,p2,q 6,q 7] _ nd ho ?_ trivial ?_ (Nat.zero_le _) (Nat.zero_le _) turnF k ?_ ?_
  · exact offN hN off6 off
  · exact plainC K
  · refine turnO_ok hc hr rfl htk xr xc (a1_ne nd ho rfl) (a1_ne nd ho rfl) ?_
    intro p hp
    rw [List.mem_singleton] at hp
    subst hp
    rw [xt,xc]
    exact aOk_tx hne (by exact om246 hsz)
  · intro h' t' c' T' m' gs e D _
    have hc0:(tx (told++[c 0]))=(runLt c tk (tx [(r 0 * c 0 + r 1 * c 1 + r 2 * c 2).fmod 5]) (tx (told++[c 0]))).sl 14:=rfl
    obtain ⟨ts,kp,rfl⟩:=turn_next (q:=q) (N:=N) (n0:=n0) (r:=r) (c:=c) (c':=nx r c) (x:=x.v3 52) (told:=told++[c 0]) D rfl off6 off (by
     have:=congrArg (fun l:List (Option Obj)=>l[6]?) ho
     exact Option.some.inj this) lo xr xc rfl e
    refine ih (told++[c 0]) (nx r c) _ (C.to D.base) hN ts (by simp) (by rw [List.length_append]; simp only [List.length_cons,List.length_nil]; exact om247 hsz) (nx_sm hc) ?_
    intro h'' G'' t'' a1 a2 a3 a4
    exact hR h'' G'' t'' a1 (fun b o hb e=>a2 b o hb (kp b o hb e)) a3 ((GB.app _ _).trans a4)
theorem loop1_c (K:RunK kt) {g:Nat->Nat} (ht:Tab (kt w.params) w) (hr:∀ i,-100000<r i∧r i<100000) (m:Nat) (c:Nat->Int) (s:Shared) (C:Cx (kt w.params) N 210 A s.heap) (hN:N≤n0) (St:TSt w.params N n0 s.heap q true r [] c (m + 1)) (hsz:m + 2≤sizeLine) (hc:Sm c)
 (hR:∀ h' G' t',TSt w.params N n0 h' q false r (tell r (m + 1) [] c).1 (tell r (m + 1) [] c).2 0->KeepsTo n0 s.heap h'->(kt w.params).Holds h' 1 0->GB s.gens G'->R (.ok .next) ⟨h',G',s.drawn,t',s.os⟩) :
 codeAny (model thePw w) A (LC (kt w.params) w g (q 0) (q 7)) R s:=by
 obtain ⟨p0,p1,p2,x,nd,⟨off6,off⟩,ho,xr,xc,xt⟩:=St
 obtain ⟨tk,htk⟩:=tk_of (kt:=kt) (w:=w) ht hc
 refine code_of ?_
 have k:=K.one w (runLt c tk (tx [(r 0 * c 0 + r 1 * c 1 + r 2 * c 2).fmod 5]) ⟨⟨[]⟩⟩) g (adOf [q 0,q 1,q 2,p0,p1,p2,q 6,q 7] s.heap) s.toks s.gens.size x m
 have lo:q 0<s.heap.objs.size:=by
  have:=congrArg List.head? ho
  exact Heap.lt_size (Option.some.inj this)
 refine seg_agn C [q 0,q 1,q 2,p0,p1,p2,q 6,q 7] _ nd ho (offN hN off6 off) trivial (plainC K) (Nat.zero_le _) (Nat.zero_le _) turnF k (turnO_ok hc hr rfl htk xr xc (a1_ne nd ho rfl) (a1_ne nd ho rfl) (fun p h=>nomatch h)) ?_
 intro h' t' c' T' m' gs e D _
 rw [show x.c 0=tx [c 0] by rw [xc]] at e
 obtain ⟨ts,kp,rfl⟩:=turn_next (q:=q) (N:=N) (n0:=n0) (r:=r) (c:=c) (c':=nx r c) (x:=(x.first s.toks).v3 51) (told:=[c 0]) D rfl off6 off (by
  have:=congrArg (fun l:List (Option Obj)=>l[6]?) ho
  exact Option.some.inj this) lo xr xc rfl e
 refine loop_c K ht hr m [c 0] (nx r c) _ (C.to D.base) hN ts (by simp) (by simp only [List.length_cons,List.length_nil]; exact om248 hsz) (nx_sm hc) ?_
 intro h'' G'' t'' a1 a2 a3 a4
 exact hR h'' G'' t'' a1 (fun b o hb e=>a2 b o hb (kp b o hb e)) a3 ((GB.app _ _).trans a4)
theorem tell_sm {r:Nat->Int}:∀ (m:Nat) (t:List Int) (c:Nat->Int),Sm c->Sm (tell r m t c).2
 | 0,_,_,h=>h
 | m + 1,t,c,h=>tell_sm m (t++[c 0]) (nx r c) (nx_sm h)
theorem run_c (K:RunK kt) {pb pr:Nat} {b:Nat->Int} {s:Shared} (ht:Tab (kt w.params) w) (hr:∀ i,-100000<r i∧r i<100000) (C:Cx (kt w.params) N 215 A s.heap) (hb:I3 s.heap pb b) (hr3:I3 s.heap pr r) (nb:N≤pb) (nr:N≤pr) (hne:pb ≠ pr) (sb:Sm b)
 (hR:∀ h' G' t' p e tt,Keeps s.heap h'->h'.get? p=some (oTup [.str (tx (tell r 31 [] b).1) tt,.ref e])->I3 h' e (tell r 31 [] b).2->s.heap.objs.size≤p->s.heap.objs.size≤e->(kt w.params).Holds h' 1 0->GB s.gens G'->R (.ok (.ret (.ref p))) ⟨h',G',s.drawn,t',s.os⟩) :
 codeAny (model thePw w) A (.call (.ref 251) ⟨[.ref pb,.ref pr],[]⟩) R s:=by
 obtain ⟨tb,n,eb⟩:=hb
 obtain ⟨tr,n',er⟩:=hr3
 have C0:Cx (kt w.params) N 210 A s.heap:=C.less (by decide)
 refine call_means C0 (K.def_ _) ?_
 have lr:pr<s.heap.objs.size:=Heap.lt_size er
 have lb:pb<s.heap.objs.size:=Heap.lt_size eb
 have hN:N≤s.heap.objs.size:=by exact om249 nb lb
 let ad:=adOf [pb,pr] s.heap
 let l:Lt:={ Lt.zero with sl:=fun q=>tx [b (q - 10)] }
 have hA:∀ j,ad (j + 2)=s.heap.objs.size + j:=fun j=>adOf_high (show 2≤j + 2 by exact om250)
 have e:=K.seg w l ad s.toks s.gens.size b r tb tr n n'
 refine seg_stq C0 [pb,pr] [l3 b tb n,l3 r tr n'] (by simpa using hne) (by simp [eb,er]) (by simp [nb,nr]) trivial rfl (Nat.le_refl _) (Nat.zero_le _) _ rfl runAF e ?_ ?_
 · intro p hp
   simp only [runAO,List.mem_cons,List.not_mem_nil,or_false] at hp
   rcases hp with rfl | rfl | rfl | rfl | rfl | rfl
   · exact sOk_tx (sb 2).1 (sb 2).2
   · exact sOk_tx (sb 1).1 (sb 1).2
   · exact sOk_tx (sb 0).1 (sb 0).2
   · trivial
   · trivial
   · trivial
 intro h' t' c' T' m' gs eF D _ ok1 ok2 ok3 ok4
 unfold runAF runAX at eF
 simp only [Prod.mk.injEq] at eF
 obtain ⟨ed,ec,e2,e4,e3,e10,e12,e14,e1,e18,e0⟩:=eF
 subst ec
 have z:=next_as D [2,4,3,10,12,14,1,18] _ (show _=List.map some [_,_,_,_,_,_,_,_] by
  simp only [List.map_cons,List.map_nil]
  rw [e2,e4,e3,e10,e12,e14,e1,e18]) (by decide)
 have kp:Keeps s.heap h':=D.keeps (l:=[l3 b tb n,l3 r tr n']) (by simp [eb,er]) (all2 e0 e1)
 have ts:TSt w.params N s.heap.objs.size h' (adT ad) true r [] b 31:=by
  refine ⟨ad 10,ad 12,ad 14,runAx ad s.toks b r tb tr n' l,z.1,⟨nr,?_⟩,z.2,rfl,?_,rfl⟩
  · intro a ha
    simp only [List.mem_cons,List.not_mem_nil,or_false] at ha
    rcases ha with rfl | rfl | rfl | rfl | rfl | rfl | rfl
    · exact Nat.le_trans (Nat.le_add_right _ _) (Nat.le_of_eq (hA 0).symm)
    · exact Nat.le_trans (Nat.le_add_right _ _) (Nat.le_of_eq (hA 2).symm)
    · exact Nat.le_trans (Nat.le_add_right _ _) (Nat.le_of_eq (hA 1).symm)
    · exact Nat.le_trans (Nat.le_add_right _ _) (Nat.le_of_eq (hA 8).symm)
    · exact Nat.le_trans (Nat.le_add_right _ _) (Nat.le_of_eq (hA 10).symm)
    · exact Nat.le_trans (Nat.le_add_right _ _) (Nat.le_of_eq (hA 12).symm)
    · exact Nat.le_trans (Nat.le_add_right _ _) (Nat.le_of_eq (hA 16).symm)
  · funext i
    show tx [b (10 + i - 10)]=tx [b i]
    rw [Nat.add_sub_cancel_left]
 refine loop1_c (q:=adT ad) (n0:=s.heap.objs.size) K ht hr 30 b _ ((C.to D.base).under ok1 ok2 ok3 (by rw [ed]; decide)) hN ts (by decide) sb ?_
 intro h2 G2 t2 ZZ kp2 hb2 gb2
 obtain ⟨p0,p1,p2,x,nd,⟨off6,off⟩,ho,xr,xc,xt⟩:=ZZ
 have sc2:Sm (tell r 31 [] b).2:=tell_sm 31 [] b sb
 obtain ⟨tk,htk⟩:=tk_of (kt:=kt) (w:=w) ht sc2
 have k:=K.last w (runLt (tell r 31 [] b).2 tk ⟨⟨[]⟩⟩ ⟨⟨[]⟩⟩) ad (ad 18) l s.toks s.gens.size b r tb tr n n' (adOf [adT ad 0,adT ad 1,adT ad 2,p0,p1,p2,adT ad 6,adT ad 7] h2) t2 G2.size x
 unfold runC at k
 rw [show adOf [adT ad 0,adT ad 1,adT ad 2,p0,p1,p2,adT ad 6,adT ad 7] h2 0=ad 2 from rfl,adA_self] at k
 refine seg_dn (C0.to hb2) [adT ad 0,adT ad 1,adT ad 2,p0,p1,p2,adT ad 6,adT ad 7] _ nd ho (offN hN off6 off) ok1 ok2 ok3 ok4 runCF k ?_ ?_
 · intro p hp
   unfold runCO at hp
   rw [xc] at hp
   simp only [List.mem_cons,List.not_mem_nil,or_false] at hp
   rcases hp with rfl | rfl | rfl
   · exact htk 2 (by decide)
   · exact htk 1 (by decide)
   · exact htk 0 (by decide)
 · intro h3 t3 rr T3 m3 gs3 e D3 _
   unfold runCF runCX at e
   simp only [Prod.mk.injEq] at e
   obtain ⟨err,e22,e6,e9⟩:=e
   rw [refOf_some err]
   have h26:h2.get? (adT ad 6)=some _:=Option.some.inj (congrArg (fun l:List (Option Obj)=>l[6]?) ho)
   have kp3:Keeps s.heap h3:=fun a o e =>
    keepsTo D3 off (fun x e=>e6.trans (h26.symm.trans e)) a o (Heap.lt_size e) (kp2 a o (Heap.lt_size e) (kp a o e))
   have a22:∀ j,adOf [adT ad 0,adT ad 1,adT ad 2,p0,p1,p2,adT ad 6,adT ad 7] h2 (8 + j)=h2.objs.size + j:=fun j=>by
    rw [adOf_high (show 8≤8 + j by exact om251)]
    show h2.objs.size + (8 + j - 8)=_
    exact om252
   have lo:s.heap.objs.size≤h2.objs.size:=by
    have z:adT ad 0<h2.objs.size:=by
     have:=congrArg List.head? ho
     exact Heap.lt_size (Option.some.inj this)
    have:adT ad 0=s.heap.objs.size + 0:=hA 0
    exact om253 z this
   have i3:I3 h3 (adOf [adT ad 0,adT ad 1,adT ad 2,p0,p1,p2,adT ad 6,adT ad 7] h2 9) (tell r 31 [] b).2:=by
    refine ⟨fun i=>match i with | 0=>t2 + 4 | 1=>t2 + 9 | _=>t2 + 14,3,(D3.own 9 _ e9).2.trans ?_⟩
    have e0:∀ z:Int,20 + z - 20=z:=fun z=>by exact om167
    show some (oList [.int (20 + (tell r 31 [] b).2 0 - 20) (t2 + 4),.int (20 + (tell r 31 [] b).2 1 - 20) (t2 + 9),.int (20 + (tell r 31 [] b).2 2 - 20) (t2 + 14)] 3)=some (oList [.int ((tell r 31 [] b).2 0) (t2 + 4),.int ((tell r 31 [] b).2 1) (t2 + 9),.int ((tell r 31 [] b).2 2) (t2 + 14)] 3)
    rw [e0,e0,e0]
   refine hR h3 _ t3 _ _ (x.τ 8) kp3 ?_ i3 ?_ ?_ D3.base ((GB.app _ _).trans (gb2.trans (GB.app _ _)))
   · rw [(D3.own 22 _ e22).2,xt]
   · rw [a22 14]; exact om254 lo
   · rw [a22 1]; exact om255 lo
end
end
section
noncomputable def roomP:Sem Unit:=PySem.W.R.bindR PySem.W.Fast.tw2211186353215096513 fun l=>match Nat.beq l 1000 with
 | true=>.pure ()
 | false=>.unsupported ""
theorem roomP_imp {M:Model} {A:Around} {c:Code} (hd:A.depth + c.weight<recursionLimit):Imp M A c roomP enterFrame:=by
 intro Γ Q E p s hc hΓ x
 have hI:Γ.In (A.under c):=hc ▸ hΓ.in
 unfold roomP at x
 rw [← PySem.W.Fast.te2211186353215096513,← PySem.W.R.bindR_eq] at x
 rw [show (Sem.bind currentRecursionLimit _:Sem Unit)=currentRecursionLimit >>= _ from rfl,Sem.wp_bind'] at x
 have hd':(A.under c).depth<recursionLimit:=hd
 have hsum:((((Γ.code,p)::Γ.below).map (·.1)).map (·.frames)).sum + ((((Γ.code,p)::Γ.below).map (·.1)).filter Code.isCreation).length<recursionLimit:=by
  have hge:=frameCount_ge ((Γ.code,p)::Γ.below)
  rw [frameCount_cons] at hge
  have:=hI.2.1
  exact om121 hd' hge this
 have hlt:¬ ((((Γ.code,p)::Γ.below).map (·.1)).map (·.frames)).sum ≥ recursionLimit:=by exact om122 hsum
 have hlt':¬ ((((Γ.code,p)::Γ.below).map (·.1)).map (·.frames)).sum + ((((Γ.code,p)::Γ.below).map (·.1)).filter Code.isCreation).length ≥ recursionLimit:=by exact om123 hsum
 unfold enterFrame
 rw [Sem.wp_bind']
 show Sem.wp M Γ (currentRecursionLimit >>= _) _ _ p s
 rw [Sem.wp_bind']
 refine Sem.wp_mono M Γ _ (fun l p' s' h=>?_) (fun _ _ _ h=>h) p s x
 cases hb:Nat.beq l 1000 with
 | false=>rw [hb] at h; exact h.elim
 | true =>
  rw [hb] at h
  obtain rfl:l=recursionLimit:=Nat.eq_of_beq_eq_true hb
  show Sem.wp M Γ (if nearTheLimitUnderAClaim (((Γ.code,p)::Γ.below).map (·.1)) (((((Γ.code,p)::Γ.below).map (·.1)).map (·.frames)).sum + ((((Γ.code,p)::Γ.below).map (·.1)).filter Code.isCreation).length) recursionLimit then _ else _) _ _ _ _
  rw [if_neg (by rw [not_nearTheLimit hI hd']; exact Bool.false_ne_true)]
  show Sem.wp M Γ (if ((((Γ.code,p)::Γ.below).map (·.1)).map (·.frames)).sum ≥ recursionLimit then _ else _) _ _ _ _
  rw [if_neg hlt]
  show Sem.wp M Γ (if ((((Γ.code,p)::Γ.below).map (·.1)).map (·.frames)).sum + ((((Γ.code,p)::Γ.below).map (·.1)).filter Code.isCreation).length ≥ recursionLimit then _ else _) _ _ _ _
  rw [if_neg hlt']; exact h
section
variable {α β:Type} {M:Model} {A:Around} {c:Code}
theorem Imp.holding {vs:List Value} {m m':Sem α} (h:Imp M A c m m'):Imp M A c (PySem.holding vs m) (PySem.holding vs m'):=fun Γ Q E p s hc hΓ x=>by
 rw [Sem.wp_holding] at x ⊢
 exact h Γ _ _ p s hc hΓ x
theorem Imp.spliced {b:Bool} {x x':Sem Value} {r:List (Bool×Sem Value)} (h:Imp M A c x x'):Imp M A c (PySem.spliced ((b,x)::r)) (PySem.spliced ((b,x')::r)):=by
 unfold PySem.spliced
 exact Imp.bind h fun _=>Imp.refl _
theorem Imp.evalArgs {f:Value} {x x':Sem Value} {r:List (Bool×Sem Value)} {kw:List (Option Str×Sem Value)} (h:Imp M A c x x'):Imp M A c (PySem.evalArgs f true ((false,x)::r) kw) (PySem.evalArgs f true ((false,x')::r) kw):=by
 unfold PySem.evalArgs
 exact Imp.bind (Imp.spliced h) fun _=>Imp.refl _
theorem Imp.callWith {pos:Pos} {f:Value} {first:List Value} {x x':Sem Value} {r:List (Bool×Sem Value)} {kw:List (Option Str×Sem Value)} (h:Imp M A c x x'):Imp M A c (PySem.callWith pos f first ((false,x)::r) kw) (PySem.callWith pos f first ((false,x')::r) kw):=by
 unfold PySem.callWith
 exact Imp.bind (Imp.holding (Imp.evalArgs h)) fun _=>Imp.refl _
theorem Imp.of_eq {m m':Sem α} (h:m=m'):Imp M A c m m':=h ▸ Imp.refl m
end
noncomputable abbrev evalF:Expr->Env->Sem Value:=PySem.W.Fast.tw14044960220447912780
noncomputable def genG:{ G:Sem Unit->Expr->List Comprehension->Scope->Pos->Env->Sem Value // (∀ elt gens scope pos env,eval (.GeneratorExp elt gens scope pos) env=G enterFrame elt gens scope pos env) ∧
 ∀ (M:Model) (A:Around) (c:Code) x y elt gens scope pos env,Imp M A c x y->Imp M A c (G x elt gens scope pos env) (G y elt gens scope pos env) }:=by
 refine ⟨?G,?h,?k⟩
 case h =>
  intro elt gens scope pos env
  rw [arm_eval_GeneratorExp]
  simp only [PySem.W.Fast.te18100340678103251363,PySem.W.Fast.te11392484809677674534,PySem.W.Fast.te5683257298004816981,PySem.W.Fast.te8711993805878244202,PySem.W.Fast.te11113344188204177931,PySem.W.Fast.te14069538253670106520,PySem.W.Fast.te9492743126541576920,PySem.W.Fast.te6600643334278800223,PySem.W.Fast.te13055414885448386229,PySem.W.Fast.te2426001476595277715]
  generalize enterFrame=f
  exact rfl
 case k =>
  intro M A c x y elt gens scope pos env h
  try dsimp only
  repeat' (first | with_reducible exact Imp.refl _ | with_reducible exact h | with_reducible refine Imp.bind ?_ (fun _=>?_) | split)
noncomputable def retC:{ G:Sem Value->Expr->List Expr->Pos->Pos->Env->Sem Flow // (∀ fn args pos rp env,exec (.Return (some (.Call fn args [] pos)) rp) env=G (eval (.Call fn args [] pos) env) fn args pos rp env) ∧
 ∀ (M:Model) (A:Around) (c:Code) x y fn args pos rp env,Imp M A c x y->Imp M A c (G x fn args pos rp env) (G y fn args pos rp env) }:=by
 refine ⟨?G,?h,?k⟩
 case h =>
  intro fn args pos rp env
  have e1:evalOpt (some (.Call fn args [] pos)) env=some (eval (.Call fn args [] pos) env):=rfl
  rw [arm_exec_Return]
  simp only [e1]
  generalize eval (.Call fn args [] pos) env=x
  exact rfl
 case k =>
  intro M A c x y fn args pos rp env h
  try dsimp only
  repeat' (first | with_reducible exact Imp.refl _ | with_reducible exact h | with_reducible refine Imp.bind ?_ (fun _=>?_) | split)
noncomputable def nameGenT (n:Str) (np:Pos) (elt:Expr) (gens:List Comprehension) (scope:Scope) (gp:Pos) (r:List Expr) (pos:Pos) (env:Env):Sem Value :=
 PySem.W.R.bindR (evalF (.Name n np) env) fun fv=>PySem.W.Fast.tw8289420714989923916 pos fv [] ((false,genG.1 roomP elt gens scope gp env)::PySem.W.Fast.tw4897270859577272712 pos (PySem.W.Fast.tw13897175071876407860 r env)) []
theorem nameGen_imp {M:Model} {A:Around} {c:Code} (hd:A.depth + c.weight<recursionLimit) (n:Str) (np:Pos) (elt:Expr) (gens:List Comprehension) (scope:Scope) (gp:Pos) (r:List Expr) (pos:Pos) (env:Env) :
 Imp M A c (nameGenT n np elt gens scope gp r pos env) (eval (.Call (.Name n np) (.GeneratorExp elt gens scope gp::r) [] pos) env):=by
 have e:eval (.Call (.Name n np) (.GeneratorExp elt gens scope gp::r) [] pos) env=(eval (.Name n np) env >>= fun fv=>callWith pos fv [] ((false,eval (.GeneratorExp elt gens scope gp) env)::backTo pos (starEach r env)) []):=rfl
 rw [e]
 unfold nameGenT evalF
 rw [← PySem.W.Fast.te14044960220447912780,← PySem.W.Fast.te8289420714989923916,← PySem.W.Fast.te4897270859577272712,← PySem.W.Fast.te13897175071876407860]
 simp only [← PySem.W.R.bindR_eq]
 refine Imp.bind (Imp.refl _) fun fv=>Imp.callWith ?_
 rw [genG.2.1]
 exact genG.2.2 _ _ _ _ _ _ _ _ _ _ (roomP_imp hd)
noncomputable def methGenT (o:Expr) (name:Str) (apos:Pos) (elt:Expr) (gens:List Comprehension) (scope:Scope) (gp pos:Pos) (env:Env):Sem Value :=
 PySem.W.R.bindR (PySem.W.Fast.tw15487144857313948548 o name env (evalF o env)) fun ov=>PySem.W.R.bindR (standAt apos.atName) fun _ =>
  PySem.W.R.bindR (PySem.W.Fast.tw17359229931016689406 [ov] (PySem.W.Fast.tw11328156115524847652 (PySem.W.Fast.tw17856382988213008342 1 [(false,.pure .none)] []) o env ov name)) fun ff =>
   PySem.W.R.bindR (PySem.W.Fast.tw6137100228056946695 (PySem.W.Fast.tw17856382988213008342 1 [(false,.pure .none)] []) o env apos pos) fun cp =>
    PySem.W.Fast.tw8289420714989923916 cp ff.1 ff.2 [(false,genG.1 roomP elt gens scope gp env)] []
theorem methGen_imp {M:Model} {A:Around} {c:Code} (hd:A.depth + c.weight<recursionLimit) (o:Expr) (name:Str) (apos:Pos) (elt:Expr) (gens:List Comprehension) (scope:Scope) (gp pos:Pos) (env:Env) :
 Imp M A c (methGenT o name apos elt gens scope gp pos env) (eval (.Call (.Attribute o name apos) [.GeneratorExp elt gens scope gp] [] pos) env):=by
 have e:eval (.Call (.Attribute o name apos) [.GeneratorExp elt gens scope gp] [] pos) env=(attributeBase o name env (eval o env) >>= fun ov=>standAt apos.atName >>= fun _ =>
  holding [ov] (calleeOf (methodCallForm 1 [(false,.pure .none)] []) o env ov name) >>= fun ff=>methodCallPos (methodCallForm 1 [(false,.pure .none)] []) o env apos pos >>= fun cp =>
   callWith cp ff.1 ff.2 [(false,eval (.GeneratorExp elt gens scope gp) env)] []):=rfl
 rw [e]
 unfold methGenT evalF
 rw [← PySem.W.Fast.te14044960220447912780,← PySem.W.Fast.te8289420714989923916,← PySem.W.Fast.te15487144857313948548,← PySem.W.Fast.te17359229931016689406,← PySem.W.Fast.te11328156115524847652,← PySem.W.Fast.te17856382988213008342,← PySem.W.Fast.te6137100228056946695]
 simp only [← PySem.W.R.bindR_eq]
 refine Imp.bind (Imp.refl _) fun ov=>Imp.bind (Imp.refl _) fun _=>Imp.bind (Imp.refl _) fun ff=>Imp.bind (Imp.refl _) fun cp=>Imp.callWith ?_
 rw [genG.2.1]
 exact genG.2.2 _ _ _ _ _ _ _ _ _ _ (roomP_imp hd)
noncomputable def spGa (f:Expr) (as:List Expr) (pos rp:Pos) (env:Env):Option (Sem Fin×Prop):=match as with
 | []=>none
 | a::r=>(genE a).bind fun g=>orO
  ((nameE f).map fun n=>(func1G.1 (retC.1 (nameGenT n.1 n.2 g.1 g.2.1 g.2.2.1 g.2.2.2 r pos env) (.Name n.1 n.2) (.GeneratorExp g.1 g.2.1 g.2.2.1 g.2.2.2::r) pos rp env) env,True))
  (cond r.isEmpty ((attrE f).map fun n=>(func1G.1 (retC.1 (methGenT n.1 n.2.1 n.2.2 g.1 g.2.1 g.2.2.1 g.2.2.2 pos env) (.Attribute n.1 n.2.1 n.2.2) [.GeneratorExp g.1 g.2.1 g.2.2.1 g.2.2.2] pos rp env) env,True)) none)
noncomputable def spGf (body:List Stmt) (env:Env):Option (Sem Fin×Prop) :=
 (oneL body).bind fun st=>(retE st).bind fun e=>(callE e.1).bind fun c=>spGa c.1 c.2.1 c.2.2 e.2 env
noncomputable def spGc (c:Code):Option (Sem Fin×Prop):=match c with
 | .func body env=>spGf body env
 | _=>none
noncomputable def spG (l:Lt) (kt:KT) (w:World) (q:Nat) (c:Code):Option (Sem Fin×Prop):=orO (spGc c) (spF l kt w q c)
theorem spGa_ok {w:World} {A:Around} {R:Result->Shared->Prop} {s:Shared} {D:Nat} {f:Expr} {as:List Expr} {pos rp:Pos} {env:Env} {t:Sem Fin} {φ:Prop} (hD:D + 5<recursionLimit) (hA:A.depth≤D) (e:spGa f as pos rp env=some (t,φ)) :
 Gd w A R s (.func [.Return (some (.Call f as [] pos)) rp] env) t:=by
 cases as with
 | nil=>exact nso e
 | cons a r =>
  have hd:∀ b e,A.depth + (Code.func b e).weight<recursionLimit:=fun b e=>by
   have:=weight_le (show (Code.func b e).isCaller=false from rfl)
   exact om124 hD hA this
  obtain ⟨⟨elt,gens,scope,gp⟩,h4,e'⟩:=bind_some (a:=genE a) e
  clear e
  obtain rfl:=genE_some h4
  intro x
  refine codeAny_of_own fun Γ p hc hΓ=>?_
  rcases orO_some e' with e | e
  · clear e'
    obtain ⟨n,h5,e⟩:=map_some' e
    obtain rfl:=nameE_some h5
    cases e
    have i:=func1G.2.2 _ _ _ _ _ _ (retC.2.2 _ _ _ _ _ _ _ _ _ _ (nameGen_imp (M:=model PySem.Challenge.pw_tr0064_01 w) (hd _ _) _ _ _ _ _ _ _ _ _)) Γ _ _ p s hc hΓ (x Γ p hc hΓ)
    rw [← retC.2.1,← func1G.2.1] at i
    exact i
  · clear e'
    obtain ⟨h6,e⟩:=cond_some e
    obtain rfl:=List.isEmpty_iff.mp h6
    obtain ⟨n,h5,e⟩:=map_some' e
    obtain rfl:=attrE_some h5
    cases e
    have i:=func1G.2.2 _ _ _ _ _ _ (retC.2.2 _ _ _ _ _ _ _ _ _ _ (methGen_imp (M:=model PySem.Challenge.pw_tr0064_01 w) (hd _ _) _ _ _ _ _ _ _ _ _)) Γ _ _ p s hc hΓ (x Γ p hc hΓ)
    rw [← retC.2.1,← func1G.2.1] at i
    exact i
theorem spGf_ok {w:World} {A:Around} {R:Result->Shared->Prop} {s:Shared} {D:Nat} {body:List Stmt} {env:Env} {t:Sem Fin} {φ:Prop} (hD:D + 5<recursionLimit) (hA:A.depth≤D) (e:spGf body env=some (t,φ)):Gd w A R s (.func body env) t:=by
 obtain ⟨st,h1,e⟩:=bind_some e
 obtain ⟨⟨v,rp⟩,h2,e⟩:=bind_some e
 obtain ⟨⟨f,as,pos⟩,h3,e⟩:=bind_some e
 rw [oneL_some h1,retE_some h2,callE_some h3]
 exact spGa_ok hD hA e
theorem spG_ok (w:World) (l:Lt) (D:Nat) (kt:KT) (hD:D + 5<recursionLimit):SpOk PySem.Challenge.pw_tr0064_01 w (spG l kt w) D kt:=by
 intro q c t φ e hφ A R s hA hA2 hK x
 rcases orO_some e with e | e
 · cases c with
   | func body env=>exact spGf_ok hD hA2 e x
   | _=>exact nso e
 · exact spF_ok w l D kt q _ t φ e hφ A R s hA hA2 hK x
end
noncomputable def mkG (l:Lt) (kt:KT) (w:World) (ad:Nat->Nat) (t0 g0:Nat):En:=⟨spG l kt w,⟨PySem.Challenge.pw_tr0064_01,w.params⟩,kt,ad,t0,g0⟩
noncomputable def isLoc (k:Option NameKind):Bool:=match k with
 | some .local=>true
 | _=>false
structure GP where
 elt:Expr
 xa:Str
 pa:Pos
 xb:Str
 pb:Pos
 k:Nat
 pt:Pos
 iter:Expr
 scope:Scope
 pos:Pos
noncomputable def GP.e (g:GP):Expr:=.GeneratorExp g.elt [⟨.Tuple [.Name g.xa g.pa,.Name g.xb g.pb] g.k g.pt,g.iter,[],0⟩] g.scope g.pos
noncomputable def gpI (c:Comprehension):Option (Expr×Expr):=cond c.ifs.isEmpty (cond (c.is_async == 0) (some (c.target,c.iter)) none) none
theorem gpI_some {c:Comprehension} {x:Expr×Expr} (h:gpI c=some x):c=⟨x.1,x.2,[],0⟩:=by
 obtain ⟨t,i,f,a⟩:=c
 obtain ⟨h1,h⟩:=cond_some h
 obtain ⟨h2,h⟩:=cond_some h
 obtain rfl:=List.isEmpty_iff.mp h1
 obtain rfl:=eq_of_beq h2
 obtain rfl:=Option.some.inj h
 rfl
noncomputable def gpOf (e:Expr):Option GP:=(genE e).bind fun g=>(oneL g.2.1).bind fun c=>(gpI c).bind fun i=>(tupE i.1).bind fun t=>(twoL t.1).bind fun x=>(nameE x.1).bind fun a=>(nameE x.2).map fun b =>
 ⟨g.1,a.1,a.2,b.1,b.2,t.2.1,t.2.2,i.2,g.2.2.1,g.2.2.2⟩
theorem gpOf_eq {e:Expr} {g:GP} (h:gpOf e=some g):e=g.e:=by
 obtain ⟨⟨g1,g2,g3⟩,h1,h⟩:=bind_some h
 obtain ⟨c,h2,h⟩:=bind_some h
 obtain ⟨⟨i1,i2⟩,h3,h⟩:=bind_some h
 obtain ⟨⟨t1,t2⟩,h4,h⟩:=bind_some h
 obtain ⟨⟨x1,x2⟩,h5,h⟩:=bind_some h
 obtain ⟨a,h6,h⟩:=bind_some h
 obtain ⟨b,h7,rfl⟩:=map_some' h
 obtain rfl:=nameE_some h7
 obtain rfl:=nameE_some h6
 obtain rfl:=twoL_some h5
 obtain rfl:=tupE_some h4
 obtain rfl:=gpI_some h3
 obtain rfl:=oneL_some h2
 exact genE_some h1
noncomputable def csOf (c:Code):Option (GP×Value×Env):=match c with
 | .compStart e n it x env=>match n with
  | 0=>match x with
   | .none=>(gpOf e).map fun g=>(g,it,env)
   | _=>none
  | _ + 1=>none
 | _=>none
theorem csOf_eq {c:Code} {g:GP} {it:Value} {env:Env} (h:csOf c=some (g,it,env)):c = .compStart g.e 0 it .none env:=by
 cases c with
 | compStart e n it' x env'=>cases n with
  | zero=>cases x with
   | none =>
    obtain ⟨g',hg,h'⟩:=Option.map_eq_some_iff.mp (show Option.map _ (gpOf e)=some _ from h)
    cases h'
    rw [gpOf_eq hg]
   | _=>exact nso h
  | succ n=>exact nso h
 | _=>exact nso h
noncomputable abbrev oPair (vs:List Value):Obj:=⟨.none,none,.fields ⟨vs⟩,#[]⟩
noncomputable abbrev oLit (vs:List Value):Obj:=⟨.type "list_iterator",none,.fields ⟨vs⟩,#[]⟩
structure GL where
 vs:List Value
 n:Nat
 v1:Nat
 τ:Nat->Nat
 cc:Nat
noncomputable def genL (P:Params) (ad:Nat->Nat) (x:GL) (o:Obj):List Obj:=[oInst 206 (ad 1) x.vs x.n,oDict [ky P sSize (x.τ 0) (.int 0 (x.τ 1))] x.v1,o]
noncomputable def segG (kt:KT) (w:World) (ad:Nat->Nat) (t0 g0:Nat) (f:Nat) (L:List Obj) (o:Nat):Rs:=run (mkG Lt.zero kt w ad t0 g0) 100 true (.call (.ref f) ⟨[.ref (ad 0)],[]⟩) (callF f ⟨[.ref (ad 0)],[]⟩ (defD kt f)) .nil 0 (bt L) 3 0 [] o [] []
noncomputable def adP (p:Nat) (g:Nat->Nat) (j:Nat):Nat:=match Nat.beq j 2 with
 | true=>p
 | false=>g j
noncomputable def gpA (kt:KT) (f:Nat):Option GP:=(oneL (defD kt f).2).bind fun s=>(retE s).bind fun e=>(callE e.1).bind fun c=>match c.2.1 with
 | []=>none
 | e::_=>gpOf e
noncomputable def gcOf (c:Code):Option (GP×Value×Nat×Nat×Nat×Scope):=match csOf c with
 | some (g,it,env)=>some (g,it,env.locals,env.globals,env.builtins,env.scope)
 | none=>none
noncomputable def gcX (kt:KT) (f:Nat) (it L:Nat):Option (GP×Value×Nat×Nat×Nat×Scope):=match gpA kt f with
 | some g=>some (g,.ref it,L,3,0,g.scope)
 | none=>none
noncomputable def segF (jf jg ji:Nat) (c:Code) (d:Nat) (T:BT) (_:Nat) (gs:List Code):Nat×Option (String×List Value)×Option Obj×Option Obj×Option Obj×Option Obj×Option Obj×Option Obj×List (Option (GP×Value×Nat×Nat×Nat×Scope)) :=
 (d,callOf c,T.get 0,T.get 1,T.get 2,T.get jf,T.get jg,T.get ji,gs.map gcOf)
noncomputable abbrev oGen (vs:List Value):Obj:=⟨.type "generator",none,.fields ⟨vs⟩,#[]⟩
noncomputable def segX (kt:KT) (P:Params) (ad:Nat->Nat) (t0 g0:Nat) (x:GL) (f:Nat) (id:String) (as:List Value) (p:Obj) (jf jg ji tf:Nat) (gn:Str) (tg:Nat):Nat×Option (String×List Value)×Option Obj×Option Obj×Option Obj×Option Obj×Option Obj×Option Obj×List (Option (GP×Value×Nat×Nat×Nat×Scope)) :=
 (0,some (id,as),some (oInst 206 (ad 1) x.vs x.n),some (oDict [ky P sSize (x.τ 0) (.int 0 (x.τ 1))] x.v1),some p,some (oFrame [ky P ⟨⟨[46,48]⟩⟩ (t0 + tf) (.ref (ad ji))] 1),
  some (oGen [.int (Int.ofNat g0) 0,.str ⟨⟨[60,103,101,110,101,120,112,114,62]⟩⟩ (t0 + tg),.str gn (t0 + tg + 1)]),some (oLit [.ref (ad 0),.int 0 0]),[gcX kt f (ad ji) (ad jf)])
noncomputable abbrev lenGn:Str:=⟨⟨[95,65,99,99,117,109,117,108,97,116,111,114,46,95,95,108,101,110,95,95,46,60,108,111,99,97,108,115,62,46,60,103,101,110,101,120,112,114,62]⟩⟩
noncomputable abbrev strGn:Str:=⟨⟨[95,65,99,99,117,109,117,108,97,116,111,114,46,95,95,115,116,114,95,95,46,60,108,111,99,97,108,115,62,46,60,103,101,110,101,120,112,114,62]⟩⟩
noncomputable def lenS1 (kt:KT) (w:World) (ad:Nat->Nat) (t0 g0:Nat) (x:GL):Rs:=segG kt w ad t0 g0 173 (genL w.params ad x (oPair [])) zo46
noncomputable def lenS2 (kt:KT) (w:World) (ad:Nat->Nat) (t0 g0:Nat) (x:GL):Rs:=segG kt w ad t0 g0 173 (genL w.params ad x (oPair [.int 119 (x.τ 2),.int 19 (x.τ 3),.ref x.cc])) zo47
noncomputable def strS1 (kt:KT) (w:World) (ad:Nat->Nat) (t0 g0:Nat) (x:GL):Rs:=segG kt w ad t0 g0 180 (genL w.params ad x (oPair [])) 0x109090000030303030000050000010000000001000000010400060404
noncomputable def strS2 (kt:KT) (w:World) (ad:Nat->Nat) (t0 g0:Nat) (x:GL):Rs:=segG kt w ad t0 g0 180 (genL w.params ad x (oPair [.int 122 (x.τ 2),.int 32 (x.τ 3),.ref x.cc])) 0x106060000030000050000010000000001000000010400060404
noncomputable def tailG (kt:KT) (w:World) (ad:Nat->Nat) (t0 g0:Nat) (rs:Rs) (v:Value):Rs:=run (mkG Lt.zero kt w ad t0 g0) 30 false rs.sc (rs.sk (.ok (.ret v))) rs.sκ rs.sd (bt []) 0 0 [] 0 [] []
noncomputable def valOf (r:Result) (_:BT) (_:Nat) (_:List Code):Option Value:=match r with
 | .ok (.ret v)=>some v
 | _=>none
noncomputable def isName (e:Expr) (x:Str):Bool:=match e with
 | .Name n _=>Fast.sEq n x
 | _=>false
noncomputable abbrev nLen:Str:=⟨⟨[108,101,110]⟩⟩
noncomputable def call1 (e:Expr):Option (Str×Pos×Expr×Pos):=(callE e).bind fun c=>(nameE c.1).bind fun n=>(oneL c.2.1).map fun a=>(n.1,n.2,a,c.2.2)
theorem call1_some {e:Expr} {x:Str×Pos×Expr×Pos} (h:call1 e=some x):e = .Call (.Name x.1 x.2.1) [x.2.2.1] [] x.2.2.2:=by
 obtain ⟨⟨c1,c2,c3⟩,h1,h⟩:=bind_some h
 obtain ⟨n,h2,h⟩:=bind_some h
 obtain ⟨a,h3,rfl⟩:=map_some' h
 obtain rfl:=nameE_some h2
 obtain rfl:=oneL_some h3
 exact callE_some h1
noncomputable def lenP (g:GP):Option ((Str×Pos×Expr×Pos)×(Str×Pos×Expr×Pos)×Pos):=(addE g.elt).bind fun s=>(call1 s.1).bind fun x=>(call1 s.2.1).map fun y=>(x,y,s.2.2)
theorem lenP_some {g:GP} {x:(Str×Pos×Expr×Pos)×(Str×Pos×Expr×Pos)×Pos} (h:lenP g=some x) :
 g.elt = .BinOp (.Call (.Name x.1.1 x.1.2.1) [x.1.2.2.1] [] x.1.2.2.2) .Add (.Call (.Name x.2.1.1 x.2.1.2.1) [x.2.1.2.2.1] [] x.2.1.2.2.2) x.2.2:=by
 obtain ⟨⟨s1,s2,s3⟩,h1,h⟩:=bind_some h
 obtain ⟨y,h2,h⟩:=bind_some h
 obtain ⟨z,h3,rfl⟩:=map_some' h
 obtain rfl:=call1_some h2
 obtain rfl:=call1_some h3
 exact addE_some h1
noncomputable def lenElt (g:GP):Bool:=elO (lenP g) (fun x=>Fast.sEq x.1.1 nLen && (Fast.sEq x.2.1.1 nLen && (isName x.1.2.2.1 g.xa && isName x.2.1.2.2.1 g.xb))) false
noncomputable abbrev nEmpty:Str:=⟨⟨[69,77,80,84,89,83,84,82,73,78,71]⟩⟩
noncomputable def strP (g:GP):Option ((Str×Pos×Str×Pos)×(Expr×Expr×Nat×Pos)×Pos):=(callE g.elt).bind fun c=>(attrE c.1).bind fun a=>(nameE a.1).bind fun n=>(oneL c.2.1).bind fun t=>(tupE t).bind fun t=>(twoL t.1).map fun x =>
 ((n.1,n.2,a.2.1,a.2.2),(x.1,x.2,t.2),c.2.2)
theorem strP_some {g:GP} {x:(Str×Pos×Str×Pos)×(Expr×Expr×Nat×Pos)×Pos} (h:strP g=some x) :
 g.elt = .Call (.Attribute (.Name x.1.1 x.1.2.1) x.1.2.2.1 x.1.2.2.2) [.Tuple [x.2.1.1,x.2.1.2.1] x.2.1.2.2.1 x.2.1.2.2.2] [] x.2.2:=by
 obtain ⟨⟨c1,c2,c3⟩,h1,h⟩:=bind_some h
 obtain ⟨⟨a1,a2⟩,h2,h⟩:=bind_some h
 obtain ⟨n,h3,h⟩:=bind_some h
 obtain ⟨t,h4,h⟩:=bind_some h
 obtain ⟨⟨t1,t2⟩,h5,h⟩:=bind_some h
 obtain ⟨x,h6,rfl⟩:=map_some' h
 obtain rfl:=twoL_some h6
 obtain rfl:=tupE_some h5
 obtain rfl:=oneL_some h4
 obtain rfl:=nameE_some h3
 obtain rfl:=attrE_some h2
 exact callE_some h1
noncomputable def strElt (g:GP):Bool:=elO (strP g) (fun x=>(x.1.2.2.2.endLine == x.2.2.line) && (Fast.sEq x.1.1 nEmpty && (Fast.sEq x.1.2.2.1 ⟨⟨[106,111,105,110]⟩⟩ && (isName x.2.1.1 g.xa && isName x.2.1.2.1 g.xb)))) false
theorem elO_true {α:Type} {a:Option α} {f:α->Bool} (h:elO a f false=true):∃ x,a=some x∧f x=true:=by
 cases a with
 | some x=>exact ⟨x,rfl,h⟩
 | none=>exact Bool.noConfusion h
noncomputable def lkS (x:Str):List (Str×NameKind)->Option NameKind
 | []=>none
 | (y,k)::r=>match Fast.sEq x y with
  | true=>some k
  | false=>lkS x r
noncomputable def isFun (k:ScopeKind):Bool:=match k with
 | .function=>true
 | _=>false
noncomputable abbrev nDebug:Str:=⟨⟨[95,95,100,101,98,117,103,95,95]⟩⟩
noncomputable def scopeOk (g:GP):Bool:=isLoc (lkS g.xa g.scope.names) && (isLoc (lkS g.xb g.scope.names) && (!Fast.sEq g.xa g.xb && (!g.scope.isCoroutine && (isFun g.scope.kind && (!Fast.sEq g.xa nDebug && !Fast.sEq g.xb nDebug)))))
noncomputable def qrun {α:Type} (kt:KT) (st:Setting):Nat->Sem α->Option α
 | 0,_=>none
 | n + 1,t=>match t with
  | .pure v=>some v
  | .rule _ k=>qrun kt st n (k ())
  | .at _ k=>qrun kt st n (k ())
  | .point _ k=>qrun kt st n (k ())
  | .ask k=>qrun kt st n (k st)
  | .load a _ k=>match kt.get a with
   | some x=>qrun kt st n (k x)
   | none=>none
  | _=>none
noncomputable def envG (sc:Scope) (L:Nat) (y:Env):Env:=⟨sc,L,3,y.cells,y.qual,y.func,y.code,y.frame,0⟩
noncomputable def lenQ (kt:KT) (w:World) (p:Pos) (L:Nat) (y:Env):Option Value:=match gpA kt 173 with
 | some g=>qrun kt ⟨PySem.Challenge.pw_tr0064_01,w.params⟩ 60 (evalF (.Name nLen p) (envG g.scope L y))
 | none=>none
noncomputable def strQ1 (kt:KT) (w:World) (p:Pos) (L:Nat) (y:Env):Option Value:=match gpA kt 180 with
 | some g=>qrun kt ⟨PySem.Challenge.pw_tr0064_01,w.params⟩ 60 (PySem.W.Fast.tw15487144857313948548 (.Name nEmpty p) ⟨⟨[106,111,105,110]⟩⟩ (envG g.scope L y) (evalF (.Name nEmpty p) (envG g.scope L y)))
 | none=>none
noncomputable def strQ2 (kt:KT) (w:World) (p:Pos) (L:Nat) (y:Env):Option (Value×List Value):=match gpA kt 180 with
 | some g=>qrun kt ⟨PySem.Challenge.pw_tr0064_01,w.params⟩ 60 (PySem.W.Fast.tw17359229931016689406 [.str ⟨⟨[]⟩⟩ 263] (PySem.W.Fast.tw11328156115524847652 true (.Name nEmpty p) (envG g.scope L y) (.str ⟨⟨[]⟩⟩ 263) ⟨⟨[106,111,105,110]⟩⟩))
 | none=>none
noncomputable def gShape (kt:KT) (f:Nat) (elt:GP->Bool):Bool:=match gpA kt f with
 | some g=>elt g && (scopeOk g && true)
 | none=>false
structure GenK (kt:Params->KT):Prop where
 def1:∀ P,(defAt (kt P) 173).isSome=true
 def2:∀ P,(defAt (kt P) 180).isSome=true
 len1:∀ (w:World) ad t0 g0 x,(lenS1 (kt w.params) w (adP 168 ad) t0 g0 x).stq (segF 8 9 4)=some (segX (kt w.params) w.params (adP 168 ad) t0 g0 x 173 "sum" [.ref (ad 9),.int 0 (x.τ 1)] (oPair [.int 119 0,.int 19 0,.ref (ad 7)]) 8 9 4 6 lenGn 7,[True],(lenS1 (kt w.params) w (adP 168 ad) t0 g0 x).l1,(lenS1 (kt w.params) w (adP 168 ad) t0 g0 x).l1)
 len2:∀ (w:World) ad t0 g0 x,(lenS2 (kt w.params) w (adP 168 ad) t0 g0 x).stq (segF 5 6 4)=some (segX (kt w.params) w.params (adP 168 ad) t0 g0 x 173 "sum" [.ref (ad 6),.int 0 (x.τ 1)] (oPair [.int 119 (x.τ 2),.int 19 (x.τ 3),.ref x.cc]) 5 6 4 1 lenGn 2,[True],(lenS2 (kt w.params) w (adP 168 ad) t0 g0 x).l1,(lenS2 (kt w.params) w (adP 168 ad) t0 g0 x).l1)
 str1:∀ (w:World) ad t0 g0 x,(strS1 (kt w.params) w (adP 175 ad) t0 g0 x).stq (segF 8 9 4)=some (segX (kt w.params) w.params (adP 175 ad) t0 g0 x 180 "str.join" [.str ⟨⟨[]⟩⟩ 263,.ref (ad 9)] (oPair [.int 122 0,.int 32 0,.ref (ad 7)]) 8 9 4 6 strGn 7,[True],(strS1 (kt w.params) w (adP 175 ad) t0 g0 x).l1,(strS1 (kt w.params) w (adP 175 ad) t0 g0 x).l1)
 str2:∀ (w:World) ad t0 g0 x,(strS2 (kt w.params) w (adP 175 ad) t0 g0 x).stq (segF 5 6 4)=some (segX (kt w.params) w.params (adP 175 ad) t0 g0 x 180 "str.join" [.str ⟨⟨[]⟩⟩ 263,.ref (ad 6)] (oPair [.int 122 (x.τ 2),.int 32 (x.τ 3),.ref x.cc]) 5 6 4 1 strGn 2,[True],(strS2 (kt w.params) w (adP 175 ad) t0 g0 x).l1,(strS2 (kt w.params) w (adP 175 ad) t0 g0 x).l1)
 lenT1:∀ (w:World) ad t0 g0 x ad' t1 g1 n t,(tailG (kt w.params) w ad' t1 g1 (lenS1 (kt w.params) w (adP 168 ad) t0 g0 x) (.int n t)).dn valOf=some (some (.int n t),[],[],[])
 lenT2:∀ (w:World) ad t0 g0 x ad' t1 g1 n t,(tailG (kt w.params) w ad' t1 g1 (lenS2 (kt w.params) w (adP 168 ad) t0 g0 x) (.int n t)).dn valOf=some (some (.int n t),[],[],[])
 strT1:∀ (w:World) ad t0 g0 x ad' t1 g1 n t,(tailG (kt w.params) w ad' t1 g1 (strS1 (kt w.params) w (adP 175 ad) t0 g0 x) (.str n t)).dn valOf=some (some (.str n t),[],[],[])
 strT2:∀ (w:World) ad t0 g0 x ad' t1 g1 n t,(tailG (kt w.params) w ad' t1 g1 (strS2 (kt w.params) w (adP 175 ad) t0 g0 x) (.str n t)).dn valOf=some (some (.str n t),[],[],[])
 shape1:∀ (w:World),gShape (kt w.params) 173 lenElt=true
 shape2:∀ (w:World),gShape (kt w.params) 180 strElt=true
 nm1:∀ (w:World) p L y,lenQ (kt w.params) w p L y=some (.builtin "len")
 nm2:∀ (w:World) p L y,strQ1 (kt w.params) w p L y=some (.str ⟨⟨[]⟩⟩ 263)
 nm3:∀ (w:World) p L y,strQ2 (kt w.params) w p L y=some (.builtin "str.join",[.str ⟨⟨[]⟩⟩ 263])
section
noncomputable def SeqAt (h:Heap) (a:Addr) (items:Array Value):Prop:=∃ o n,h.get? a=some o∧o.data = .seq items n
theorem SeqAt.keep {h h':Heap} {a:Addr} {items:Array Value} (x:SeqAt h a items) (k:∀ o,h.get? a=some o->h'.get? a=some o):SeqAt h' a items:=by
 obtain ⟨o,n,ho,hd⟩:=x
 exact ⟨o,n,k o ho,hd⟩
section
variable {prog:Program} {w:World} {A:Around} {E:Value->Shared->Prop} {s:Shared}
theorem seq_next {it l:Addr} {i:Nat} {items:Array Value} {x:Value} {Q:Option Value->Shared->Prop} (hit:s.heap.IsListIter it l i) (hl:SeqAt s.heap l items) (hx:items[i]? = some x)
 (hQ:∀ h',h'.IsListIter it l (i + 1)->Heap.SameBut it s.heap h'->Q (some x) { s with heap:=h' }):wpAny (model prog w) A (pyNext (.ref it)) Q E s:=by
 have hit0:=hit
 obtain ⟨o,ho,hc,hd⟩:=hit0
 obtain ⟨ol,nl,hol,hdl⟩:=hl
 unfold pyNext
 refine wpAny_bind (wpAny_attempt (wpAny_callSpecial?_slot (name:=Str.ofString "__next__") hit.typeIs slot_listiter_next (wpAny_call_entry slot_listiter_next hit.typeIs entry_listiter_next ?_ (args_listiter_next _))))
 show wpAny _ _ (field (.ref it) 0 >>= _) _ _ s
 refine wpAny_bind (wpAny_field ho hd (x:=.ref l) rfl ?_)
 show wpAny _ _ (if (Value.ref l == Value.none)=true then _ else _) _ _ s
 rw [if_neg (show ¬ ((Value.ref l == Value.none)=true) from Bool.false_ne_true)]
 show wpAny _ _ (field (.ref it) 1 >>= _) _ _ s
 refine wpAny_bind (wpAny_field ho hd (x:=.int i 0) rfl ?_)
 show wpAny _ _ (seqItems? (.ref l) >>= _) _ _ s
 refine wpAny_bind (wpAny_seqItems hol hdl ?_)
 simp only [Int.toNat_natCast,hx]
 refine wpAny_bind (wpAny_setField ho hd (by simp) (wpAny_pure ⟨x,rfl,wpAny_pure (hQ _ ?_ (Heap.SameBut.update ..))⟩))
 refine ⟨_,Heap.get?_update_self _ ho (Obj.isFreed_of_fields (Obj.data_mapFields hd _)),(Obj.cls_mapFields ..).trans hc,?_⟩
 rw [Obj.data_mapFields hd]
 simp [rawInt]
theorem seq_end {it l:Addr} {i:Nat} {items:Array Value} {Q:Option Value->Shared->Prop} (hh:A.handled=none) (hit:s.heap.IsListIter it l i) (hl:SeqAt s.heap l items) (hx:items[i]? = none)
 (hQ:∀ h',Heap.ExtBut it s.heap h'->Q none { s with heap:=h' }):wpAny (model prog w) A (pyNext (.ref it)) Q E s:=by
 have hit0:=hit
 obtain ⟨o,ho,hc,hd⟩:=hit0
 obtain ⟨ol,nl,hol,hdl⟩:=hl
 unfold pyNext
 refine wpAny_bind (wpAny_attempt (wpAny_callSpecial?_slot (name:=Str.ofString "__next__") hit.typeIs slot_listiter_next (wpAny_call_entry slot_listiter_next hit.typeIs entry_listiter_next ?_ (args_listiter_next _))))
 show wpAny _ _ (field (.ref it) 0 >>= _) _ _ s
 refine wpAny_bind (wpAny_field ho hd (x:=.ref l) rfl ?_)
 show wpAny _ _ (if (Value.ref l == Value.none)=true then _ else _) _ _ s
 rw [if_neg (show ¬ ((Value.ref l == Value.none)=true) from Bool.false_ne_true)]
 show wpAny _ _ (field (.ref it) 1 >>= _) _ _ s
 refine wpAny_bind (wpAny_field ho hd (x:=.int i 0) rfl ?_)
 show wpAny _ _ (seqItems? (.ref l) >>= _) _ _ s
 refine wpAny_bind (wpAny_seqItems hol hdl ?_)
 simp only [Int.toNat_natCast,hx]
 refine wpAny_bind (wpAny_rule (wpAny_bind (wpAny_setField ho hd (by simp) ?_)))
 show wpAny _ _ (newExc (.type "StopIteration") [] >>= _) _ _ _
 refine wpAny_bind ?_
 simp only [newExc,newTuple]
 refine wpAny_bind (wpAny_newObj_type ?_ (by size_fits))
 refine wpAny_bind (m:=firstArgMember _ _) (wpAny_of_eq (a:=Value.none) (by first | rfl | (simp only [firstArgMember]; rfl)) ?_)
 refine wpAny_newObj_type ?_ (by size_fits)
 simp only [raiseNew]
 refine wpAny_bind (wpAny_handled ?_)
 rw [show A.in1.handled=none from hh]
 refine wpAny_bind (wpAny_pure (wpAny_throw ?_))
 refine wpAny_bind (wpAny_isInstance (T:="StopIteration") (b:=true) ⟨_,Heap.get?_push_size _ rfl,rfl⟩ isSubtype_stop ?_)
 exact wpAny_pure (hQ _ (((Heap.SameBut.update ..).extBut.push _).push _))
end
theorem seq_walks {prog:Program} {w:World} {A:Around} (hh:A.handled=none) (I ax:Addr) (hne:ax ≠ I) (items:Array Value) (Ts:Nat->Addr) (vals:Nat->Array Value)
 (hit:∀ j,j<items.size->items[j]? = some (.ref (Ts j))) (hTI:∀ j,j<items.size->Ts j ≠ I) :
 WalksU prog w A I (I::ax::(List.range items.size).map Ts) [I] items.size (fun j v=>j<items.size∧v=vals j)
  (fun j h=>h.IsListIter I ax j∧SeqAt h ax items∧∀ k,k<items.size->h.IsTuple (Ts k) (vals k))
  (fun j T h=>(j<items.size∧T=Ts j)∧h.IsListIter I ax (j + 1)∧SeqAt h ax items∧∀ k,k<items.size->h.IsTuple (Ts k) (vals k)) where
 sub:=fun b hb=>by simp at hb; simp [hb]
 frame:=fun _ _ _ st hk=>⟨st.1.at fun o e=>hk I (by simp) o e,st.2.1.keep fun o e=>hk ax (by simp) o e,
  fun k hk'=>(st.2.2 k hk').at fun o e=>hk (Ts k) (List.mem_cons_of_mem _ (List.mem_cons_of_mem _ (List.mem_map.mpr ⟨k,List.mem_range.mpr hk',rfl⟩))) o e⟩
 item:=fun i s Q E hi st hQ=>by
  refine seq_next st.1 st.2.1 (x:=.ref (Ts i)) (hit i hi) fun h' hit' hs'=>?_
  have tup:∀ k,k<items.size->h'.IsTuple (Ts k) (vals k):=fun k hk'=>(st.2.2 k hk').extBut hs'.extBut (hTI k hk')
  exact hQ (Ts i) (vals i) h' s.toks ⟨hi,rfl⟩ (tup i hi) ⟨⟨hi,rfl⟩,hit',st.2.1.keep (fun o e=>hs'.extBut ax o hne e),tup⟩ fun b o hb e=>hs'.extBut b o (fun h=>hb (by simp [h])) e
 go:=fun _ _ _ _ _ s Q _ hm hQ=>wpAny_letOwnedTupleGo_listiter hm.2.1 (hQ s.heap hm.2 fun _ _ _ e=>e)
 apart:=fun j T _ hm hmem=>by
  rcases List.mem_cons.mp hmem with e | e
  · exact hTI j hm.1.1 (hm.1.2 ▸ e)
  · cases e
 done:=fun s Q E st hQ=>seq_end hh st.1 st.2.1 (by simp) fun h' he'=>hQ h' s.toks fun b o hb e=>he' b o (fun h=>hb (by simp [h])) e
 self:=fun _ _ _ _ st hQ=>wpAny_pyIter_listiter st.1 hQ
theorem qrun_ok {α:Type} {prog:Program} {w:World} {A:Around} {E:Value->Shared->Prop} {kt:KT}:∀ (n:Nat) (t:Sem α) (v:α) (s:Shared) (Q:α->Shared->Prop),qrun kt ⟨prog,w.params⟩ n t=some v->kt.Holds s.heap 1 0->Q v s->wpAny (model prog w) A t Q E s:=by
 intro n
 induction n with
 | zero=>intro t v s Q e _ _; cases e
 | succ n ih =>
  intro t v s Q e hk hQ
  cases t with
  | pure v'=>cases (show some v'=some v from e); exact wpAny_pure hQ
  | rule a k=>exact fun Γ p hΓ=>ih _ v s Q e hk hQ Γ p hΓ
  | «at» a k=>exact fun Γ p hΓ=>ih _ v s Q e hk hQ Γ _ hΓ
  | point a k=>exact fun Γ p hΓ=>ih _ v s Q e hk hQ Γ p hΓ
  | ask k=>exact fun Γ p hΓ=>ih _ v s Q e hk hQ Γ p hΓ
  | load a q k =>
   replace e:(match kt.get a with | some x=>qrun kt _ n (k x) | none=>none)=some v:=e
   split at e
   · rename_i x hx
     have:=KT.Holds.get hk hx
     rw [Nat.one_mul,Nat.add_zero] at this
     exact wpAny_bind (m:=loadPart a q) (f:=k) (wpAny_loadPart this (ih _ v s Q e hk hQ))
   · cases e
  | _=>exact nso e
theorem check_sum (I:Addr) (t:Tok):checkBuiltinCall "sum" ⟨[.ref I,.int 0 t],[]⟩=pure ():=by kernel_rfl
section
variable {prog:Program} {w:World} {A:Around} {R:Result->Shared->Prop} {I:Addr} {fp wr:List Addr} {G:Array GenState->Array GenState->Prop} {n:Nat} {P:Nat->Value->Prop} {St:Nat->Shared->Prop}
theorem sum_c (W:WalksS prog w A.in1 I fp wr G n P St) (val:Nat->Int) (hval:∀ i v,P i v->∃ t,v = .int (val i) t) {s:Shared} {t:Tok} (hst:St 0 s) (hfp:∀ b∈fp,b<s.heap.objs.size)
 (hR:∀ s' t',Moved wr G s s'->R (.ok (.ret (.int (preSum val n) t'))) s'):codeAny (model prog w) A (.call (.builtin "sum") ⟨[.ref I,.int 0 t],[]⟩) R s:=by
 refine codeAny_call_builtin F.plain_sum F.entry_sum ?_
 rw [check_sum]
 refine wpAny_pure ?_
 unfold Builtin.«sum»
 simp only [List.length_cons,List.length_nil]
 rw [if_neg (by decide)]
 refine wpAny_bind (wpAny_of_eq (show Builtin.Builtins.bindParams "sum" ["start"] 0 ⟨[.int 0 t],[]⟩=pure [some (.int 0 t)] from rfl) ?_)
 refine wpAny_bind (W.self 0 s _ _ hst ?_)
 refine wpAny_bind (wpAny_rule ?_)
 refine wpAny_bind (wpAny_mkInt ?_)
 refine wpAny_bind (wpAny_pure ?_)
 simp only [List.forIn_cons,List.forIn_nil]
 refine wpAny_bind (wpAny_bind (wpAny_bind (wpAny_isInstance (T:="int") (b:=false) (typeIs_int _ _ _) PySem.sub_int_str ?_)))
 simp only [Bool.false_eq_true,if_false]
 refine wpAny_pure (wpAny_bind (wpAny_bind (wpAny_isInstance (T:="int") (b:=false) (typeIs_int _ _ _) sub_int_bytes ?_)))
 simp only [Bool.false_eq_true,if_false]
 refine wpAny_pure (wpAny_bind (wpAny_bind (wpAny_isInstance (T:="int") (b:=false) (typeIs_int _ _ _) sub_int_bytearray ?_)))
 simp only [Bool.false_eq_true,if_false]
 refine wpAny_pure (wpAny_pure ?_)
 refine wpAny_bind (wpAny_newObj_type ?_)
 have hSf:s.heap.objs.size ∉ fp:=fun hm=>Nat.lt_irrefl _ (hfp _ hm)
 refine wpAny_pure ⟨plainId_quiet F.plain_sum_loop _,codeAny_sum_loopAnyS W val hval s.heap.objs.size hSf n 0 _ s.toks 0 0 (.inl rfl) rfl (Nat.zero_le _)
  (W.frame 0 s _ _ hst (by first | exact Nat.le_refl _ | exact Nat.le_succ _ | omega) fun b _ o e=>Heap.get?_push_of_some _ e) (Heap.get?_push_size _ rfl) fun s' t' hm=>?_⟩
 exact hR s' t' (hm.drop_new (by first | exact Nat.le_refl _ | exact Nat.le_succ _ | omega))
end
theorem isName_eq {e:Expr} {x:Str} (h:isName e x=true):∃ p,e = .Name x p:=by
 cases e with
 | Name n p=>exact ⟨p,by rw [PySem.W.Fast.sEq_iff.mp (show Fast.sEq n x=true from h)]⟩
 | _=>exact Bool.noConfusion h
theorem lkS_eq (x:Str):∀ l:List (Str×NameKind),lkS x l=l.lookup x
 | []=>rfl
 | (y,k)::r=>by
  unfold lkS
  cases h:Fast.sEq x y with
  | true =>
   obtain rfl:=PySem.W.Fast.sEq_iff.mp h
   simp [List.lookup]
  | false =>
   have:(x == y)=false:=by
    cases q:x == y with
    | false=>rfl
    | true=>rw [PySem.W.Fast.sEq_iff.mpr (eq_of_beq q)] at h; cases h
   simp only [List.lookup,this]
   exact lkS_eq x r
theorem isLoc_eq {k:Option NameKind} (h:isLoc k=true):k=some .local:=by
 unfold isLoc at h
 split at h
 · rfl
 · cases h
theorem isFun_eq {k:ScopeKind} (h:isFun k=true):k = .function:=by
 unfold isFun at h
 split at h
 · rfl
 · cases h
structure ScOk (g:GP):Prop where
 a:g.scope.names.lookup g.xa=some .local
 b:g.scope.names.lookup g.xb=some .local
 ab:g.xa ≠ g.xb
 co:g.scope.isCoroutine=false
 fn:g.scope.kind = .function
 da:(g.xa == ("__debug__":Str))=false
 db:(g.xb == ("__debug__":Str))=false
theorem scopeOk_eq {g:GP} (h:scopeOk g=true):ScOk g:=by
 unfold scopeOk at h
 simp only [Bool.and_eq_true,Bool.not_eq_true'] at h
 obtain ⟨h1,h2,h3,h4,h5,h6,h7⟩:=h
 rw [lkS_eq] at h1 h2
 have nd:∀ x:Str,Fast.sEq x nDebug=false->(x == ("__debug__":Str))=false:=fun x hx=>by
  cases q:x == ("__debug__":Str) with
  | false=>rfl
  | true =>
   have e:x=nDebug:=(eq_of_beq q).trans (by decide +kernel)
   rw [PySem.W.Fast.sEq_iff.mpr e] at hx
   cases hx
 refine ⟨isLoc_eq h1,isLoc_eq h2,fun e=>?_,h4,isFun_eq h5,nd _ h6,nd _ h7⟩
 rw [PySem.W.Fast.sEq_iff.mpr e] at h3
 cases h3
section
variable {kt:Params->KT} {w:World} {A:Around} {E:Value->Shared->Prop} {s:Shared} {g:GP} {env:Env} {m:Str->Option Value} {x y:Str} {t u:Tok}
theorem name_local {n:Str} {p:Pos} {v:Value} {Q:Value->Shared->Prop} (S:ScOk g) (he:env.scope=g.scope) (hl:g.scope.names.lookup n=some .local) (hd:(n == ("__debug__":Str))=false) (hn:s.heap.Ns env.locals m) (hv:m n=some v) (h:Q v s):wpAny (model thePw w) A (eval (.Name n p) env) Q E s :=
 wpAny_Name (wpAny_loadName_local (by rw [he]; exact S.fn) (by show env.scope.names.lookup n=_; rw [he]; exact hl) hn hv h) hd
theorem len_elt (K:GenK kt) (hg:gpA (kt w.params) 173=some g) (he:env.scope=g.scope) (hgl:env.globals=3) (hbi:env.builtins=0) (hk:(kt w.params).Holds s.heap 1 0) (hn:s.heap.Ns env.locals m) (ha:m g.xa=some (.str x t)) (hb:m g.xb=some (.str y u))
 (fx:x.length<1000) (fy:y.length<1000):wpAny (model thePw w) A (eval g.elt env) (fun v s'=>(∃ t',v = .int ((x.length:Int) + (y.length:Int)) t')∧PySem.Keeps s s') E s:=by
 have sh:=K.shape1 w
 unfold gShape at sh
 rw [hg] at sh
 simp only [Bool.and_eq_true,and_true] at sh
 obtain ⟨sh,sc⟩:=sh
 have S:=scopeOk_eq sc
 have nm:∀ p,qrun (kt w.params) ⟨thePw,w.params⟩ 60 (evalF (.Name nLen p) env)=some (.builtin "len"):=fun p=>by
  have:=K.nm1 w p env.locals env
  unfold lenQ at this
  rw [hg] at this
  have e:envG g.scope env.locals env=env:=by unfold envG; rw [← he,← hgl,← hbi]
  rw [← e]
  exact this
 obtain ⟨⟨⟨l1,p1,a,p2⟩,⟨l2,p3,b,p4⟩,p5⟩,hel,sh⟩:=elO_true sh
 · replace hel:=lenP_some hel
   simp only [Bool.and_eq_true] at sh
   obtain ⟨h1,h2,h3,h4⟩:=sh
   obtain rfl:=PySem.W.Fast.sEq_iff.mp h1
   obtain rfl:=PySem.W.Fast.sEq_iff.mp h2
   obtain ⟨pa,rfl⟩:=isName_eq h3
   obtain ⟨pb,rfl⟩:=isName_eq h4
   rw [hel]
   have lenNm:∀ {p:Pos} {s':Shared} {Q:Value->Shared->Prop},(kt w.params).Holds s'.heap 1 0->Q (.builtin "len") s'->wpAny (model thePw w) A (eval (.Name nLen p) env) Q E s':=fun {p s' Q} hk' hQ=>by
    rw [PySem.W.Fast.te14044960220447912780]
    exact qrun_ok 60 _ _ _ _ (nm p) hk' hQ
   refine wpAny_BinOp (PySem.Call_name1 rfl (lenNm hk (PySem.callWith_builtin1 (name_local S he S.a S.da hn ha (PySem.P.len_str (by exact om98 fx) ?_)))))
   refine PySem.Call_name1 rfl (lenNm hk (PySem.callWith_builtin1 (name_local S he S.b S.db hn hb (PySem.P.len_str (by exact om98 fy) ?_))))
   refine wpAny_add_int ⟨⟨_,rfl⟩,?_⟩
   exact ⟨s.heap,_,rfl,fun _ _ e=>e⟩
theorem str_elt (K:GenK kt) (hg:gpA (kt w.params) 180=some g) (he:env.scope=g.scope) (hgl:env.globals=3) (hbi:env.builtins=0) (hk:(kt w.params).Holds s.heap 1 0) (hn:s.heap.Ns env.locals m) (ha:m g.xa=some (.str x t)) (hb:m g.xb=some (.str y u))
 (fx:x.length<1000) (fy:y.length<1000):wpAny (model thePw w) A (eval g.elt env) (fun v s'=>(∃ t',v = .str (Txt.join ⟨⟨[]⟩⟩ [x,y]) t')∧PySem.Keeps s s') E s:=by
 have sh:=K.shape2 w
 unfold gShape at sh
 rw [hg] at sh
 simp only [Bool.and_eq_true,and_true] at sh
 obtain ⟨sh,sc⟩:=sh
 have S:=scopeOk_eq sc
 have e:envG g.scope env.locals env=env:=by unfold envG; rw [← he,← hgl,← hbi]
 have n1:=fun p=>K.nm2 w p env.locals env
 have n2:=fun p=>K.nm3 w p env.locals env
 unfold strQ1 at n1
 unfold strQ2 at n2
 rw [hg] at n1 n2
 simp only [e] at n1 n2
 obtain ⟨⟨⟨l1,p1,j,apos⟩,⟨a,b,k,tp⟩,pos⟩,hel,sh⟩:=elO_true sh
 · replace hel:=strP_some hel
   simp only [Bool.and_eq_true] at sh
   obtain ⟨h0,h1,h2,h3,h4⟩:=sh
   obtain rfl:=PySem.W.Fast.sEq_iff.mp h1
   obtain rfl:=PySem.W.Fast.sEq_iff.mp h2
   obtain ⟨pa,rfl⟩:=isName_eq h3
   obtain ⟨pb,rfl⟩:=isName_eq h4
   rw [hel]
   show wpAny _ _ (attributeBase (.Name nEmpty p1) ⟨⟨[106,111,105,110]⟩⟩ env (eval (.Name nEmpty p1) env) >>= fun ov=>standAt apos.atName >>= fun _=>methodCall (.Name nEmpty p1) ⟨⟨[106,111,105,110]⟩⟩ apos pos env ov 1 (backTo pos (starEach [.Tuple [.Name g.xa pa,.Name g.xb pb] k tp] env)) (backToKw pos (keywordEach [] env))) _ _ s
   refine wpAny_bind ?_
   rw [PySem.W.Fast.te15487144857313948548,PySem.W.Fast.te14044960220447912780]
   refine qrun_ok 60 _ _ _ _ (n1 p1) hk ?_
   refine wpAny_bind (wpAny_standAt ?_)
   unfold methodCall
   show wpAny _ _ (holding [.str ⟨⟨[]⟩⟩ 263] (calleeOf true (.Name nEmpty p1) env (.str ⟨⟨[]⟩⟩ 263) ⟨⟨[106,111,105,110]⟩⟩) >>= _) _ _ s
   refine wpAny_bind ?_
   rw [PySem.W.Fast.te17359229931016689406,PySem.W.Fast.te11328156115524847652]
   refine qrun_ok 60 _ _ _ _ (n2 p1) hk ?_
   refine wpAny_bind ?_
   show wpAny _ _ (methodCallPos true (.Name nEmpty p1) env apos pos) _ _ s
   unfold methodCallPos
   rw [if_pos (by simpa using h0)]
   refine wpAny_pure ?_
   refine callWith_method1 (?_:wpAny _ _ (spliced [(false,eval (.Tuple [.Name g.xa pa,.Name g.xb pb] k tp) env)]) _ _ s)
   refine spliced_cons (wpAny_Tuple (?_:wpAny _ _ (spliced [(false,eval (.Name g.xa pa) env),(false,eval (.Name g.xb pb) env)]) _ _ s))
   refine spliced_cons (name_local S he S.a S.da hn ha (spliced_cons (name_local S he S.b S.db hn hb (spliced_nil ⟨by show 2≤sizeLine; decide,spliced_nil ?_⟩))))
   refine PyProof.Rows.join_tuple (items:=#[.str x t,.str y u]) (ys:=[x,y]) ⟨_,Heap.get?_push_size _ rfl,rfl,0,rfl⟩ (.cons x t (.cons y u .nil)) ?_ fun t' k'=>⟨⟨t',rfl⟩,?_⟩
   · simp only [List.map_cons,List.map_nil,List.sum_cons,List.sum_nil,List.length_cons,List.length_nil]
     show x.length + (y.length + 0) + (0 + 1 + 1) * 0≤_
     exact om99 fx fy
   · exact ⟨_,_,rfl,fun b o e=>Heap.get?_push_of_some _ e⟩
end
section
open Builtin Builtin.Str
variable {prog:Program} {w:World} {A:Around} {R:Result->Shared->Prop} {I:Addr} {fp wr:List Addr} {G:Array GenState->Array GenState->Prop} {n:Nat} {P:Nat->Value->Prop} {St:Nat->Shared->Prop} {s:Shared} {x:Str} {t:Tok}
theorem join_c (W:WalksS prog w A.in1.in1 I fp wr G n P St) (hT:∀ i s,St i s->s.TypeIs (.ref I) "generator") (hst:St 0 s) (hfp:∀ b∈fp,b<s.heap.objs.size) (hI:I∈fp)
 (hstr:∀ i v,P i v->∃ y u,v=Value.str y u) (hsz:n≤sizeLine)
 (hq:∀ s' (l:List (Str×Tok)),Moved wr G s s'->ItemsOf P (strValues l).toArray n->JoinOk x (l.map (·.1))=true∧∀ t' k,R (.ok (.ret (.str (Txt.join x (l.map (·.1))) t'))) { s' with toks:=k }) :
 codeAny (model prog w) A (.call (.builtin "str.join") ⟨[.str x t,.ref I],[]⟩) R s:=by
 refine codeAny_call_builtin F.slot_str_join.plain F.entry_str_join (F.slot_str_join.check _ _ _ _ _ _ _ _ (typeIs_str _ _ _) (F.args_str_join_2 _ _) ?_)
 rw [join_tree_other]
 refine wpAny_bind (wpAny_typeOf (hT 0 s hst) ?_)
 show wpAny _ A.in1 ((pyIter (.ref I)).tryCatch _ >>= fun it=>collect it >>= fun items=>joinTail x items) _ _ s
 refine wpAny_bind (wpAny_tryCatch (W.of_in1.self 0 s _ _ hst ?_))
 refine wpAny_bind (wpAny_collect_gen W hT hst hfp hI (fun s' acc hm hacc=>?_) hsz)
 obtain ⟨l,hl⟩:=exists_strValues acc.toList fun v hv=>by
  obtain ⟨j,hj,rfl⟩:=Array.mem_iff_getElem.mp (Array.mem_toList_iff.mp hv)
  exact hstr j _ (hacc.2 j _ (Array.getElem?_eq_getElem hj))
 rw [← hl]
 have hacc':ItemsOf P (strValues l).toArray n:=by rw [hl]; simpa using hacc
 obtain ⟨hok,hpost⟩:=hq s' l hm hacc'
 unfold JoinOk at hok
 rw [Bool.not_eq_true'] at hok
 have g:Gives (joinTail x (strValues l)) (joinMade x l):=by
  have g0:=gives_joinTail x l hok
  cases l with
  | nil=>exact g0
  | cons p r=>cases r with
   | nil=>exact g0
   | cons q r'=>exact g0
 exact g prog w A R s' (post_join (Q:=fun v s'=>R (.ok (.ret v)) s') l ⟨joinFit_length hok,hpost⟩)
end
end
section
theorem holds_of {h':Heap}:∀ (t:KT) (s b:Nat),(∀ i o,t.get i=some o->h'.get? (s * i + b)=some o)->t.Holds h' s b
 | .nil,_,_,_=>trivial
 | .node v l r,s,b,H=>by
  refine ⟨fun o eo=>?_,holds_of l _ _ (fun i o ei=>?_),holds_of r _ _ (fun i o ei=>?_)⟩
  · have:=H 0 o (by rw [KT.get_node]; simpa using eo)
    simpa using this
  · have:=H (2 * i + 1) o (by
     rw [KT.get_node,if_neg (by exact om24),if_pos (by exact om25)]
     have:(2 * i + 1) / 2=i:=by exact om26
     rw [this]; exact ei)
    refine (congrArg h'.get? (?_:@Eq Nat _ _)).trans this
    rw [Nat.mul_add,Nat.mul_one,← Nat.mul_assoc,Nat.mul_comm s 2]; exact om27
  · have:=H (2 * i + 2) o (by
     rw [KT.get_node,if_neg (by exact om28),if_neg (by exact om29)]
     have:(2 * i + 2) / 2 - 1=i:=by exact om30
     rw [this]; exact ei)
    refine (congrArg h'.get? (?_:@Eq Nat _ _)).trans this
    rw [Nat.mul_add,← Nat.mul_assoc,Nat.mul_comm s 2]; exact om31
theorem holds_move {kt:KT} {h h':Heap} (H:kt.Holds h 1 0) (k:∀ a x,kt.get a=some x->h.get? a=some x->h'.get? a=some x):kt.Holds h' 1 0 :=
 holds_of kt 1 0 fun i o e=>by
  have z:=KT.Holds.get H e
  rw [Nat.one_mul,Nat.add_zero] at z ⊢
  exact k i o e z
theorem holds_nil (h:Heap):KT.nil.Holds h 1 0:=trivial
theorem Rep.initE {kt:KT} {h:Heap} (as:List Nat) (l:List Obj) (hb:kt.Holds h 1 0) (hn:as.Nodup) (ho:as.map h.get? = l.map some) (off:∀ a∈as,kt.get a=none):Rep kt (adOf as h) h h (bt l) as.length:=by
 have D:=Rep.init (kt:=.nil) (N:=0) as l (holds_nil h) hn ho (fun a x e=>by cases e) (fun a _=>Nat.zero_le a)
 refine ⟨hb,D.next,D.low,D.inj,D.own,fun j hj a x e q=>?_,D.keep,D.size⟩
 have z:=off (adOf as h j) (by
  unfold adOf
  rw [if_pos hj,List.getD_eq_getElem?_getD,List.getElem?_eq_getElem hj]
  exact List.getElem_mem hj)
 rw [q,e] at z
 cases z
section
variable {w:World} {A:Around} {R:Result->Shared->Prop} {s:Shared} {kt:KT} {N:Nat} {n o:Nat} {X:Type} {x:X} {ops:List Prop} {b:Bool} {c:Code} {t:Sem Fin} {κ:Kn} {d:Nat}
theorem mkG_ctxt {ad:Nat->Nat} {t0:Nat} {G:Array GenState} {h:Heap} (C:Cx kt N 215 A h):Ctxt thePw w A (mkG Lt.zero kt w ad t0 G.size) G:=⟨rfl,rfl,C.hA,by have:=C.hd; show A.depth + 210<_; exact om100 this,spG_ok _ _ _ _ (by have:=C.hd; exact om101 this),C.lim⟩
theorem segG_stq (C:Cx kt N 215 A s.heap) (as:List Nat) (l:List Obj) (hn:as.Nodup) (ho:as.map s.heap.get? = l.map some) (off:∀ a∈as,kt.get a=none) (hk:κ.okc) (hc:c.isCaller=false) (hl:κ.len≤d) (hl2:κ.len≤42)
 (rs:Rs) (hrs:rs=run (mkG Lt.zero kt w (adOf as s.heap) s.toks s.gens.size) n b c t κ d (bt l) as.length 0 [] o [] [])
 (F:Code->Nat->BT->Nat->List Code->X) (e:rs.stq F=some (x,ops,rs.l1,rs.l1)) (hop:∀ p∈ops,p)
 (hR:∀ h' t' c' T' m' gs,F c' rs.sd T' m' gs=x->Rep kt (adOf as s.heap) s.heap h' T' m'->s.toks≤t'->rs.sκ.okc->rs.sc.isCaller=false->rs.sκ.len≤rs.sd->rs.sκ.len≤42 →
  codeAny (model thePw w) (arK A (.cons rs.sc rs.sk rs.sκ)) c' (fun r s'=>Means thePw w A R false rs.sc (rs.sk r) rs.sκ s') ⟨h',s.gens++(gs.map GenState.fresh).toArray,s.drawn,t',s.os⟩):Means thePw w A R b c t κ s:=by
 have D:=Rep.initE as l C.hb hn ho off
 have Ct:=mkG_ctxt (w:=w) (ad:=adOf as s.heap) (t0:=s.toks) (G:=s.gens) C
 have S:=fun hob hop hgood=>sound (R:=R) (h₀:=s.heap) (dr:=s.drawn) (os:=s.os) Ct.st Ct.g0 Ct.hA Ct.hd Ct.sp Ct.lim n b c t κ d (bt l) as.length 0 [] o [] [] s.heap hk hc hl hl2 hob hop hgood D
 have key:Means thePw w A R b c t κ (sh (mkG Lt.zero kt w (adOf as s.heap) s.toks s.gens.size) s.gens s.drawn s.os s.heap 0 []):=by
  rw [← hrs] at S
  clear hrs
  cases rs with
  | stop c' c₁ k κ' d' T' m' i gs ob op =>
   simp only [Rs.stq,Option.some.injEq,Prod.mk.injEq] at e
   obtain ⟨e1,e2,e3,e4⟩:=e
   subst e2
   exact S (fun p hp=>eq_all (show ob.map Prod.fst=ob.map Prod.snd from e4.symm) p hp) hop fun q1 q2 q3 q4 h' D'=>hR h' _ c' T' m' gs e1 D' (Nat.le_add_right _ _) q1 q2 q3 q4
  | _=>cases e
 rw [sh_self _ s rfl] at key
 exact key
theorem segG_dn (C:Cx kt N 215 A s.heap) {ad:Nat->Nat} (hk:κ.okc) (hc:c.isCaller=false) (hl:κ.len≤d) (hl2:κ.len≤42) {v:Value}
 (had:ad=adOf [] s.heap) (e:(run (mkG Lt.zero kt w ad s.toks s.gens.size) n b c t κ d (bt []) 0 0 [] o [] []).dn valOf=some (some v,[],[],[]))
 (hR:∀ h' t' (gs:List Code),Keeps s.heap h'->s.heap.objs.size≤h'.objs.size->R (.ok (.ret v)) ⟨h',s.gens++(gs.map GenState.fresh).toArray,s.drawn,t',s.os⟩):Means thePw w A R b c t κ s:=by
 subst had
 have D:=Rep.initE (kt:=kt) (h:=s.heap) [] [] C.hb (by simp) rfl (by simp)
 have Ct:=mkG_ctxt (w:=w) (ad:=adOf [] s.heap) (t0:=s.toks) (G:=s.gens) C
 have S:=fun hob hop hgood=>sound (R:=R) (h₀:=s.heap) (dr:=s.drawn) (os:=s.os) Ct.st Ct.g0 Ct.hA Ct.hd Ct.sp Ct.lim n b c t κ d (bt []) 0 0 [] o [] [] s.heap hk hc hl hl2 hob hop hgood D
 have key:Means thePw w A R b c t κ (sh (mkG Lt.zero kt w (adOf [] s.heap) s.toks s.gens.size) s.gens s.drawn s.os s.heap 0 []):=by
  revert e S
  generalize run (mkG Lt.zero kt w (adOf [] s.heap) s.toks s.gens.size) n b c t κ d (bt []) 0 0 [] o [] []=rs
  intro e S
  cases rs with
  | done r T' m' i gs ob op =>
   simp only [Rs.dn,Option.some.injEq,Prod.mk.injEq] at e
   obtain ⟨e1,e2,e3,e4⟩:=e
   have hob:ob=[]:=by cases ob <;> simp at e3 ⊢
   subst hob e2
   refine S (fun p h=>nomatch h) (fun p h=>nomatch h) fun h' D'=>?_
   have er:r = .ok (.ret v):=by
    unfold valOf at e1
    split at e1
    · cases e1; rfl
    · cases e1
   subst er
   have D2:Rep kt (adOf [] s.heap) s.heap h' T' m':=D'
   exact hR h' _ gs (fun a o e=>D2.frame e fun j hj=>by simp at hj) D2.size
  | _=>cases e
 rw [sh_self _ s rfl] at key
 exact key
end
structure GenAft (kt:KT) (A:Around) (s:Shared) (ad:Nat->Nat) (P p pd jf jg ji f:Nat) (x:GL) (p':Obj) (wp:Params) (h1:Heap) (g:GP) (env:Env):Prop where
 hg:gpA kt f=some g
 loc:env.locals=ad jf
 glo:env.globals=3
 bui:env.builtins=0
 sco:env.scope=g.scope
 reg:h1.get? p=some (oInst 206 pd x.vs x.n)
 dict:h1.get? pd=some (oDict [ky wp sSize (x.τ 0) (.int 0 (x.τ 1))] x.v1)
 pair:h1.get? P=some p'
 frm:∃ t,h1.get? (ad jf)=some (oFrame [ky wp ⟨⟨[46,48]⟩⟩ t (.ref (ad ji))] 1)
 gen:∃ a b,h1.get? (ad jg)=some (oGen [.int (Int.ofNat s.gens.size) 0,a,b])
 itr:h1.get? (ad ji)=some (oLit [.ref p,.int 0 0])
 keep:∀ b o,b ≠ P->s.heap.get? b=some o->h1.get? b=some o
 size:s.heap.objs.size≤h1.objs.size
 base:kt.Holds h1 1 0
theorem seg_gen {kt:Params->KT} {w:World} {A:Around} {R:Result->Shared->Prop} {s:Shared} {N f P p pd jf jg ji tf tg orc:Nat} {x:GL} {ob p':Obj} {id:String} {as:List Value} {gn:Str} (C:Cx (kt w.params) N 225 A s.heap) (hf:(defAt (kt w.params) f).isSome=true) (hP:(kt w.params).get P=none) (hsome:(gpA (kt w.params) f).isSome=true)
 (reg:s.heap.get? p=some (oInst 206 pd x.vs x.n)) (dict:s.heap.get? pd=some (oDict [ky w.params sSize (x.τ 0) (.int 0 (x.τ 1))] x.v1)) (pair:s.heap.get? P=some ob) (np:N≤p) (nd:N≤pd) (nP:P<N) (hpd:p ≠ pd)
 (rs:Rs) (hrs:rs=segG (kt w.params) w (adOf [p,pd,P] s.heap) s.toks s.gens.size f (genL w.params (adOf [p,pd,P] s.heap) x ob) orc)
 (k:rs.stq (segF jf jg ji)=some (segX (kt w.params) w.params (adOf [p,pd,P] s.heap) s.toks s.gens.size x f id as p' jf jg ji tf gn tg,[True],rs.l1,rs.l1))
 (hR:∀ h1 t1 g env,GenAft (kt w.params) A s (adOf [p,pd,P] s.heap) P p pd jf jg ji f x p' w.params h1 g env->rs.sκ.okc->rs.sc.isCaller=false->rs.sκ.len≤rs.sd->rs.sd=0 →
  codeAny (model thePw w) (arK A (.cons rs.sc rs.sk rs.sκ)) (.call (.builtin id) ⟨as,[]⟩) (fun r s'=>Means thePw w A R false rs.sc (rs.sk r) rs.sκ s') ⟨h1,s.gens.push (.fresh (.compStart g.e 0 (.ref (adOf [p,pd,P] s.heap ji)) .none env)),s.drawn,t1,s.os⟩) :
 codeAny (model thePw w) A (.call (.ref f) ⟨[.ref p],[]⟩) R s:=by
 refine call_means (C.less (by decide)) hf ?_
 have nodup:[p,pd,P].Nodup:=by
  simp only [List.nodup_cons,List.mem_cons,List.not_mem_nil,or_false,not_or,List.nodup_nil,and_true,not_false_eq_true]
  exact ⟨⟨hpd,fun e=>by exact om102 np nP e⟩,fun e=>by exact om102 nd nP e⟩
 refine segG_stq (C.less (by decide)) [p,pd,P] (genL w.params (adOf [p,pd,P] s.heap) x ob) nodup ?_ ?_ trivial rfl (Nat.le_refl _) (Nat.zero_le _) rs hrs (segF jf jg ji) k (fun q hq=>by rw [List.mem_singleton] at hq; subst hq; trivial) ?_
 · show [s.heap.get? p,s.heap.get? pd,s.heap.get? P]=[some _,some _,some _]
   rw [reg,dict,pair]
   rfl
 · intro a ha
   have hN:∀ a,N≤a->(kt w.params).get a=none:=fun a h=>by
    cases q:(kt w.params).get a with
    | none=>rfl
    | some z=>have:=C.top a z q; exact om103 h this
   simp only [List.mem_cons,List.not_mem_nil,or_false] at ha
   rcases ha with rfl | rfl | rfl
   · exact hN _ np
   · exact hN _ nd
   · exact hP
 · intro h1 t1 c' T' m' gs e D ht ok1 ok2 ok3 ok4
   unfold segF segX at e
   simp only [Prod.mk.injEq] at e
   obtain ⟨ed,ec,e0,e1,e2,ef,eg,ei,egs⟩:=e
   have hgs:∃ c,gs=[c]∧gcOf c=gcX (kt w.params) f (adOf [p,pd,P] s.heap ji) (adOf [p,pd,P] s.heap jf):=by
    cases gs with
    | nil=>cases egs
    | cons c r=>cases r with
     | nil=>exact ⟨c,rfl,by simpa using egs⟩
     | cons _ _=>simp at egs
   obtain ⟨c,rfl,hc⟩:=hgs
   unfold gcX at hc
   cases hg:gpA (kt w.params) f with
   | none =>
    rw [hg] at hsome
    cases hsome
   | some g0 =>
    rw [hg] at hc
    unfold gcOf at hc
    split at hc
    · rename_i g it env hcs
      simp only [Option.some.injEq,Prod.mk.injEq] at hc
      obtain ⟨rfl,rfl,q1,q2,q3,q4⟩:=hc
      have hcc:=csOf_eq hcs
      have hcall:c' = .call (.builtin id) ⟨as,[]⟩:=callOf_some ec
      subst hcall
      have kp:∀ b o,b ≠ P->s.heap.get? b=some o->h1.get? b=some o:=fun b o hb eo=>D.frame eo fun j hj=>by
       match j,hj with
       | 0,hj =>
        injection hj with hj
        rw [← hj,reg] at eo
        rw [e0]; exact eo
       | 1,hj =>
        injection hj with hj
        rw [← hj,dict] at eo
        rw [e1]; exact eo
       | 2,hj =>
        injection hj with hj
        exact absurd hj.symm hb
      have z:=hR h1 t1 g env ⟨hg,q1,q2,q3,q4,kp _ _ (fun e=>by exact om102 np nP e) reg,kp _ _ (fun e=>by exact om102 nd nP e) dict,(D.own 2 _ e2).2,⟨_,(D.own _ _ ef).2⟩,⟨_,_,(D.own _ _ eg).2⟩,(D.own _ _ ei).2,kp,D.size,D.base⟩ ok1 ok2 ok3 ed
      have eg':s.gens++(List.map GenState.fresh [c]).toArray=s.gens.push (.fresh (.compStart g.e 0 (.ref (adOf [p,pd,P] s.heap ji)) .none env)):=by
       rw [hcc]
       apply Array.ext'
       simp
      rw [eg']
      exact z
    · cases hc
end
section
theorem passing_all (n:Nat):passing (fun _=>true) n 0=List.range n:=by
 unfold passing
 rw [List.drop_zero,List.filter_eq_self]
 exact fun _ _=>rfl
noncomputable def Items (h:Heap) (vs:List Value) (Ts:Nat->Nat) (X Y:Nat->Str) (ta tb:Nat->Nat):Prop:=∀ j,j<vs.length->vs[j]? = some (.ref (Ts j))∧h.get? (Ts j)=some (oTup [.str (X j) (ta j),.str (Y j) (tb j)])
section
variable {kt:Params->KT} {w:World} {A:Around} {s:Shared} {N f P p pd jf jg ji:Nat} {x:GL} {p':Obj} {h1:Heap} {g:GP} {env:Env} {Ts:Nat->Nat} {X Y:Nat->Str} {ta tb:Nat->Nat} {F:Nat->Value->Prop} {t1:Nat}
theorem gen_walks (C:Cx (kt w.params) N 225 A s.heap) (lp:p<s.heap.objs.size) (aft:GenAft (kt w.params) A s (adOf [p,pd,P] s.heap) P p pd jf jg ji f x p' w.params h1 g env) (its:Items s.heap x.vs Ts X Y ta tb) (nT:∀ j,j<x.vs.length->N≤Ts j) (nP:P<N) (np:N≤p)
 (sc:ScOk g) (hfg:3≤jf∧3≤jg∧3≤ji∧jf ≠ jg∧jf ≠ ji∧jg ≠ ji)
 (hel:∀ (A':Around) E' i t u (s₂:Shared) m₂,i<x.vs.length->(kt w.params).Holds s₂.heap 1 0->s₂.heap.Ns env.locals m₂->m₂ g.xa=some (.str (X i) t)->m₂ g.xb=some (.str (Y i) u)->wpAny (model thePw w) A' (eval g.elt env) (fun v s'=>F i v∧PySem.Keeps s₂ s') E' s₂)
 (B:Around) (hB:B.handled=none) (hroom:B.depth<recursionLimit) :
 ∃ fp,WalksS thePw w B (adOf [p,pd,P] s.heap jg) (adOf [p,pd,P] s.heap jg::adOf [p,pd,P] s.heap jf::fp) (adOf [p,pd,P] s.heap jf::[adOf [p,pd,P] s.heap ji]) (GenOnlyQ s.gens.size) (passing (fun _=>true) x.vs.length 0).length (fun j y=>∃ i,(passing (fun _=>true) x.vs.length 0)[j]? = some i∧F i y)
  (GenAt thePw w B (adOf [p,pd,P] s.heap jg) s.gens.size (adOf [p,pd,P] s.heap jf) fp [adOf [p,pd,P] s.heap ji] (fun _=>true) x.vs.length F) ∧
  GenAt thePw w B (adOf [p,pd,P] s.heap jg) s.gens.size (adOf [p,pd,P] s.heap jf) fp [adOf [p,pd,P] s.heap ji] (fun _=>true) x.vs.length F 0 ⟨h1,s.gens.push (.fresh (.compStart g.e 0 (.ref (adOf [p,pd,P] s.heap ji)) .none env)),s.drawn,t1,s.os⟩ ∧
  (∀ b∈adOf [p,pd,P] s.heap jg::adOf [p,pd,P] s.heap jf::fp,b<h1.objs.size):=by
 have ha:∀ j,3≤j->adOf [p,pd,P] s.heap j=s.heap.objs.size + (j - 3):=fun j hj=>adOf_high hj
 obtain ⟨t0,frm⟩:=aft.frm
 obtain ⟨ga,gb,gen⟩:=aft.gen
 have itr:=aft.itr
 have loc:=aft.loc
 have hl1:h1.NoLimit:=C.lim _ aft.base
 have hcs:@LT.lt Nat _ cStatics s.heap.objs.size:=by
  obtain ⟨_,hn,_⟩:=C.lim _ C.hb
  exact hn.lt
 generalize hC:adOf [p,pd,P] s.heap jf=Ca at *
 generalize hG:adOf [p,pd,P] s.heap jg=a at *
 generalize hI:adOf [p,pd,P] s.heap ji=I at *
 have eC:Ca=s.heap.objs.size + (jf - 3):=by rw [← hC]; exact ha jf hfg.1
 have eG:a=s.heap.objs.size + (jg - 3):=by rw [← hG]; exact ha jg hfg.2.1
 have eI:I=s.heap.objs.size + (ji - 3):=by rw [← hI]; exact ha ji hfg.2.2.1
 obtain ⟨hf1,hf2,hf3,hf4,hf5,hf6⟩:=hfg
 have nCa:Ca ≠ a:=by exact om104 eC eG hf1 hf2 hf4
 have nCI:Ca ≠ I:=by exact om104 eC eI hf1 hf3 hf5
 have nGI:a ≠ I:=by exact om104 eG eI hf2 hf3 hf6
 have lC:=Heap.lt_size frm
 have lG:=Heap.lt_size gen
 have lI:=Heap.lt_size itr
 let items:=x.vs.toArray
 have sz:items.size=x.vs.length:=by simp [items]
 have hit:∀ j,j<items.size->items[j]? = some (.ref (Ts j)):=fun j hj=>by
  rw [sz] at hj
  simpa [items] using (its j hj).1
 have lT:∀ j,j<x.vs.length->Ts j<s.heap.objs.size:=fun j hj=>Heap.lt_size (its j hj).2
 let fp:=(List.range h1.objs.size).filter fun b=>b != Ca && b != a
 have memfp:∀ b,b<h1.objs.size->b ≠ Ca->b ≠ a->b∈fp:=fun b h1' h2 h3=>by
  simp only [fp,List.mem_filter,List.mem_range,Bool.and_eq_true,bne_iff_ne]
  exact ⟨h1',h2,h3⟩
 have W₀:∀ A':Around,A'.handled=none->WalksU thePw w A' I fp [I] items.size (fun j v=>j<items.size∧v = #[.str (X j) (ta j),.str (Y j) (tb j)]) _ _:=fun A' hA' =>
  (seq_walks hA' I p (show @Ne Nat p I by exact om105 lp eI) items Ts (fun j=>#[.str (X j) (ta j),.str (Y j) (tb j)]) hit (fun j hj=>show @Ne Nat (Ts j) I by have:=lT j (by rw [← sz]; exact hj); exact om106 eI this)).mono_fp (by
   intro b hb
   simp only [List.mem_cons,List.mem_map,List.mem_range] at hb
   have hs:=aft.size
   rcases hb with e | e | ⟨k,hk,e⟩
   · rw [e]; exact memfp _ lI (Ne.symm nCI) (Ne.symm nGI)
   · rw [e]; exact memfp p (by exact om107 lp hs) (by exact om105 lp eC) (by exact om105 lp eG)
   · have:=lT k (by rw [← sz]; exact hk)
     rw [← e]
     exact memfp (Ts k) (by exact om23 hs this) (by exact om106 eC this) (by exact om106 eG this))
 refine ⟨fp,?_,?_,?_⟩
 · exact WalksS.genexpQ hB a s.gens.size Ca fp [I] (fun _=>true) x.vs.length F (Ne.symm nCa) (by simp [fp]) (fun b hb=>by
    rw [List.mem_singleton] at hb
    subst hb
    exact memfp _ lI (Ne.symm nCI) (Ne.symm nGI)) hroom (memfp cStatics (by have:=aft.size; exact om107 hcs this) (by exact om105 hcs eC) (by exact om105 hcs eG)) (show @Ne Nat cStatics Ca by exact om105 hcs eC) (by
     rw [List.mem_singleton]
     exact show @Ne Nat cStatics I by exact om105 hcs eI)
 · have ns:h1.Ns env.locals (fun y=>if y=⟨⟨[46,48]⟩⟩ then some (.ref I) else none):=by
    rw [loc]
    refine ⟨_,_,_,frm,rfl,?_,?_⟩
    · intro e he
      simp only [List.mem_toArray,List.mem_singleton] at he
      subst he
      exact ⟨_,_,rfl⟩
    · intro name
      by_cases h:name=⟨⟨[46,48]⟩⟩
      · subst h
        simp [nsFind,findBy,Value.isStr]
      · have h2:¬ ((⟨⟨[46,48]⟩⟩:Str)=name):=fun e=>h e.symm
        simp [nsFind,findBy,Value.isStr,h,h2]
   have st0:h1.IsListIter I p 0∧SeqAt h1 p items∧∀ k,k<items.size->h1.IsTuple (Ts k) #[.str (X k) (ta k),.str (Y k) (tb k)]:=by
    refine ⟨⟨_,itr,rfl,rfl⟩,⟨_,_,aft.reg,rfl⟩,fun k hk=>?_⟩
    rw [sz] at hk
    have:=nT k hk
    exact ⟨_,aft.keep _ _ (show @Ne Nat (Ts k) P by exact om108 nP this) (its k hk).2,rfl,0,rfl⟩
   have q:GenAt thePw w B a s.gens.size env.locals fp [I] (fun _=>true) items.size F 0 ⟨h1,s.gens.push (.fresh (.compStart g.e 0 (.ref I) .none env)),s.drawn,t1,s.os⟩ :=
    GenAt.freshTD (iter:=g.iter) (pa:=g.pa) (pb:=g.pb) (pt:=g.pt) (kt:=g.k) (scope:=g.scope) (pos:=g.pos) (xa:=g.xa) (xb:=g.xb) (elt:=g.elt) (ifs:=[]) hB W₀ (fun i vals e=>⟨_,_,e.2⟩) sc.ab (fun _=>true) F (by show env.scope.names.lookup g.xa=_; rw [aft.sco]; exact sc.a) (by show env.scope.names.lookup g.xb=_; rw [aft.sco]; exact sc.b) (by rw [aft.sco,sc.fn]; rfl) (by rw [aft.sco]; exact sc.co)
     (by rw [loc]; simp [fp]) ⟨fun A' E' i va vb s₂ m₂ _ _ _ _ _ _ _ _=>wpAny_pure ⟨rfl,_,_,rfl,fun _ _ e=>e⟩,fun A' E' i va vb s₂ m₂ _ _ _ hv _ hn ma mb kp=>?_⟩ ⟨_,_,_,gen,rfl,rfl,rfl⟩ (Array.getElem?_push_size ..) st0 ns hl1
   · rw [loc,sz] at q
     exact q
   · obtain ⟨hi,hv⟩:=hv
     have hv2:va = .str (X i) (ta i)∧vb = .str (Y i) (tb i):=by simpa using hv
     rw [hv2.1] at ma
     rw [hv2.2] at mb
     refine hel A' E' i _ _ s₂ m₂ (by rw [← sz]; exact hi) (holds_move aft.base fun b o eb e=>?_) hn ma mb
     have hbN:=C.top b o eb
     exact kp b (memfp b (Heap.lt_size e) (by exact om109 lp np eC hbN) (by exact om109 lp np eG hbN)) (by
      rw [List.mem_singleton]
      exact show @Ne Nat b I by exact om109 lp np eI hbN) o e
 · intro b hb
   simp only [List.mem_cons] at hb
   rcases hb with e | e | hb
   · rw [e]; exact lG
   · rw [e]; exact lC
   · simp only [fp,List.mem_filter,List.mem_range] at hb
     exact hb.1
end
end
section
noncomputable def Ca1 (h:Heap):Prop:=h.get? 168=some (oPair [])∨∃ t1 t2 cc,h.get? 168=some (oPair [.int 119 t1,.int 19 t2,.ref cc])
noncomputable def Ca2 (h:Heap):Prop:=h.get? 175=some (oPair [])∨∃ t1 t2 cc,h.get? 175=some (oPair [.int 122 t1,.int 32 t2,.ref cc])
theorem adP_self (a b p:Nat) (h:Heap):adP p (adOf [a,b,p] h)=adOf [a,b,p] h:=by
 funext j
 unfold adP
 cases q:Nat.beq j 2 with
 | true=>rw [Nat.eq_of_beq_eq_true q]; rfl
 | false=>rfl
noncomputable def KeepsP (P:Nat) (h h':Heap):Prop:=∀ (b:Nat) o,b ≠ P->h.get? b=some o->h'.get? b=some o
section
variable {kt:Params->KT} {w:World} {A:Around} {R:Result->Shared->Prop} {s:Shared} {N p pd jf jg ji:Nat} {x:GL} {p':Obj} {h1:Heap} {g:GP} {env:Env} {Ts:Nat->Nat} {X Y:Nat->Str} {ta tb:Nat->Nat} {t1:Nat}
theorem len_aft (K:GenK kt) (C:Cx (kt w.params) N 245 A s.heap) (lp:p<s.heap.objs.size) (its:Items s.heap x.vs Ts X Y ta tb) (nT:∀ j,j<x.vs.length->N≤Ts j) (nP:168<N) (np:N≤p) (lens:∀ j,j<x.vs.length->(X j).length<1000∧(Y j).length<1000)
 (hfg:3≤jf∧3≤jg∧3≤ji∧jf ≠ jg∧jf ≠ ji∧jg ≠ ji)
 (aft:GenAft (kt w.params) A s (adOf [p,pd,168] s.heap) 168 p pd jf jg ji 173 x p' w.params h1 g env) {rs:Rs} {tv:Tok} (ok1:rs.sκ.okc) (ok2:rs.sc.isCaller=false) (ok3:rs.sκ.len≤rs.sd) (ok4:rs.sd=0)
 (tail:∀ ad' t1 g1 n t,(tailG (kt w.params) w ad' t1 g1 rs (.int n t)).dn valOf=some (some (.int n t),[],[],[]))
 (hR:∀ h' G' t' tk,KeepsP 168 s.heap h'->h'.get? 168=some p'->(kt w.params).Holds h' 1 0->s.heap.objs.size≤h'.objs.size->GB s.gens G'->R (.ok (.ret (.int (preSum (fun i=>((X i).length:Int) + ((Y i).length:Int)) x.vs.length) tk))) ⟨h',G',s.drawn,t',s.os⟩) :
 codeAny (model thePw w) (arK A (.cons rs.sc rs.sk rs.sκ)) (.call (.builtin "sum") ⟨[.ref (adOf [p,pd,168] s.heap jg),.int 0 tv],[]⟩) (fun r s'=>Means thePw w A R false rs.sc (rs.sk r) rs.sκ s') ⟨h1,s.gens.push (.fresh (.compStart g.e 0 (.ref (adOf [p,pd,168] s.heap ji)) .none env)),s.drawn,t1,s.os⟩:=by
 have C1:Cx (kt w.params) N 225 A s.heap:=C.less (by decide)
 have Ca:=(C.to aft.base).under (D':=240) (k:=rs.sk) ok1 ok2 ok3 (by rw [ok4]; decide)
 have sc:ScOk g:=by
  have sh:=K.shape1 w
  unfold gShape at sh
  rw [aft.hg] at sh
  simp only [Bool.and_eq_true] at sh
  exact scopeOk_eq sh.2.1
 obtain ⟨fp,W,G0,hfp⟩:=gen_walks (F:=fun i v=>∃ t,v = .int (((X i).length:Int) + ((Y i).length:Int)) t) (t1:=t1) C1 lp aft its nT nP np sc hfg
  (fun A' E' i t u s₂ m₂ hi hk hn ma mb=>len_elt K aft.hg aft.sco aft.glo aft.bui hk hn ma mb (lens i hi).1 (lens i hi).2) (arK A (.cons rs.sc rs.sk rs.sκ)).in1 Ca.hA (by have:=Ca.hd; show (arK A (.cons rs.sc rs.sk rs.sκ)).depth<_; exact om110 this)
 rw [passing_all,List.length_range] at W
 refine sum_c W (fun i=>((X i).length:Int) + ((Y i).length:Int)) (fun i v hv=>?_) G0 hfp ?_
 · obtain ⟨k,hk,t,e⟩:=hv
   have:k=i:=by
    rw [List.getElem?_eq_some_iff] at hk
    obtain ⟨h1,h2⟩:=hk
    simpa using h2.symm
   subst this
   exact ⟨t,e⟩
 · intro s' t' hm
   have ha:∀ j,3≤j->adOf [p,pd,168] s.heap j=s.heap.objs.size + (j - 3):=fun j hj=>adOf_high hj
   have notw:∀ b:Nat,b<s.heap.objs.size->b ∉ (adOf [p,pd,168] s.heap jf::[adOf [p,pd,168] s.heap ji]):=fun b hb hm=>by
    simp only [List.mem_cons,List.not_mem_nil,or_false] at hm
    rw [ha _ hfg.1,ha _ hfg.2.2.1] at hm
    exact om111 hb hm
   have hb':(kt w.params).Holds s'.heap 1 0:=holds_move aft.base fun b o eb e=>hm.heap b o (notw b (by
    have h1:=C.top b o eb
    exact om112 lp np h1)) e
   have Ct:Cx (kt w.params) N 215 A s'.heap:=(C.to hb').less (by decide)
   obtain ⟨sh',sg',sd',st',so'⟩:=s'
   obtain rfl:sd'=s.drawn:=hm.drawn
   obtain rfl:so'=s.os:=hm.os
   refine segG_dn Ct (ad:=adOf [] sh') ok1 ok2 ok3 (by exact om113 ok3 ok4) rfl (tail _ _ _ _ _) fun h2 t2 gs kp hs=>?_
   refine hR h2 _ t2 t' (fun b o hb e=>kp b o (hm.heap b o (notw b (Heap.lt_size e)) (aft.keep b o hb e))) (kp _ _ (hm.heap _ _ (notw 168 (by exact om114 lp nP np)) aft.pair)) (KT.Holds.keeps kp hb') ?_ (fun ab=>GB.app _ _ (AllBare.moved (ab.push rfl) hm.gens))
   obtain ⟨ga,gb,gen⟩:=aft.gen
   have z2:adOf [p,pd,168] s.heap jg<h2.objs.size:=Heap.lt_size (kp _ _ (hm.heap _ _ (fun hmem=>by
    simp only [List.mem_cons,List.not_mem_nil,or_false] at hmem
    have hm2:@Eq Nat (adOf [p,pd,168] s.heap jg) (adOf [p,pd,168] s.heap jf)∨@Eq Nat (adOf [p,pd,168] s.heap jg) (adOf [p,pd,168] s.heap ji):=hmem
    rw [ha _ hfg.1,ha _ hfg.2.2.1,ha _ hfg.2.1] at hm2
    exact om115 hfg hm2) gen))
   rw [ha _ hfg.2.1] at z2
   exact om116 z2
theorem len_c (K:GenK kt) {vs:List Value} {n v1 τ0 τ1:Nat} (C:Cx (kt w.params) N 245 A s.heap) (reg:s.heap.get? p=some (oInst 206 pd vs n)) (dict:s.heap.get? pd=some (oDict [ky w.params sSize τ0 (.int 0 τ1)] v1)) (ca:Ca1 s.heap)
 (its:Items s.heap vs Ts X Y ta tb) (nT:∀ j,j<vs.length->N≤Ts j) (nP:168<N) (hP:(kt w.params).get 168=none) (np:N≤p) (nd:N≤pd) (hpd:p ≠ pd) (lens:∀ j,j<vs.length->(X j).length<1000∧(Y j).length<1000)
 (hR:∀ h' G' t' tk,KeepsP 168 s.heap h'->Ca1 h'->(kt w.params).Holds h' 1 0->s.heap.objs.size≤h'.objs.size->GB s.gens G'->R (.ok (.ret (.int (preSum (fun i=>((X i).length:Int) + ((Y i).length:Int)) vs.length) tk))) ⟨h',G',s.drawn,t',s.os⟩) :
 codeAny (model thePw w) A (.call (.ref 173) ⟨[.ref p],[]⟩) R s:=by
 have hsome:(gpA (kt w.params) 173).isSome=true:=by
  have sh:=K.shape1 w
  unfold gShape at sh
  cases q:gpA (kt w.params) 173 with
  | none=>rw [q] at sh; cases sh
  | some _=>rfl
 rcases ca with e | ⟨t1,t2,cc,e⟩
 · have k:=K.len1 w (adOf [p,pd,168] s.heap) s.toks s.gens.size ⟨vs,n,v1,fun i=>match i with | 0=>τ0 | _=>τ1,0⟩
   have kt':=fun ad' t1 g1 n' t=>K.lenT1 w (adOf [p,pd,168] s.heap) s.toks s.gens.size ⟨vs,n,v1,fun i=>match i with | 0=>τ0 | _=>τ1,0⟩ ad' t1 g1 n' t
   rw [adP_self] at k
   simp only [adP_self] at kt'
   refine seg_gen (x:=⟨vs,n,v1,fun i=>match i with | 0=>τ0 | _=>τ1,0⟩) (C.less (by decide)) (K.def1 _) hP hsome reg dict e np nd nP hpd _ rfl k fun h1 t1 g env aft ok1 ok2 ok3 ok4=>?_
   exact len_aft K C (Heap.lt_size reg) its nT nP np lens (by decide) aft ok1 ok2 ok3 ok4 kt' fun h' G' t' tk k1 k2 k3 k4 k5=>hR h' G' t' tk k1 (.inr ⟨_,_,_,k2⟩) k3 k4 k5
 · have k:=K.len2 w (adOf [p,pd,168] s.heap) s.toks s.gens.size ⟨vs,n,v1,fun i=>match i with | 0=>τ0 | 1=>τ1 | 2=>t1 | _=>t2,cc⟩
   have kt':=fun ad' t1' g1 n' t=>K.lenT2 w (adOf [p,pd,168] s.heap) s.toks s.gens.size ⟨vs,n,v1,fun i=>match i with | 0=>τ0 | 1=>τ1 | 2=>t1 | _=>t2,cc⟩ ad' t1' g1 n' t
   rw [adP_self] at k
   simp only [adP_self] at kt'
   refine seg_gen (x:=⟨vs,n,v1,fun i=>match i with | 0=>τ0 | 1=>τ1 | 2=>t1 | _=>t2,cc⟩) (C.less (by decide)) (K.def1 _) hP hsome reg dict e np nd nP hpd _ rfl k fun h1 t1 g env aft ok1 ok2 ok3 ok4=>?_
   exact len_aft K C (Heap.lt_size reg) its nT nP np lens (by decide) aft ok1 ok2 ok3 ok4 kt' fun h' G' t' tk k1 k2 k3 k4 k5=>hR h' G' t' tk k1 (.inr ⟨_,_,_,k2⟩) k3 k4 k5
noncomputable def rowTx (X Y:Nat->Str) (n:Nat):Str:=Txt.join ⟨⟨[]⟩⟩ ((List.range n).map fun i=>Txt.join ⟨⟨[]⟩⟩ [X i,Y i])
theorem join2 (x y:Str):Txt.join ⟨⟨[]⟩⟩ [x,y]=⟨x.cps++y.cps⟩:=by
 show (⟨(x.cps++(⟨[]⟩:Array Nat))++y.cps⟩:Str)=_
 rw [show (x.cps++(⟨[]⟩:Array Nat))=x.cps from by simp]
theorem joinLen (x y:Str):(Txt.join ⟨⟨[]⟩⟩ [x,y]).length≤x.length + y.length:=by
 rw [join2]
 show (x.cps++y.cps).size≤_
 rw [Array.size_append]
 exact Nat.le_refl _
theorem foldG:∀ (l:List Str) (a:Array Nat),l.foldl (fun acc p=>acc++(⟨[]⟩:Array Nat)++p.cps) a=a++((l.map fun p=>p.cps.toList).flatten).toArray
 | [],a=>by simp
 | p::l,a=>by
  rw [List.foldl_cons,foldG l]
  apply Array.ext'
  simp
theorem joinAll (l:List Str):Txt.join ⟨⟨[]⟩⟩ l=⟨((l.map fun p=>p.cps.toList).flatten).toArray⟩:=by
 show (⟨(l.drop 1).foldl (fun acc p=>acc++(⟨[]⟩:Array Nat)++p.cps) (l.headD Str.empty).cps⟩:Str)=_
 cases l with
 | nil=>rfl
 | cons p l =>
  rw [foldG]
  congr 1
  apply Array.ext'
  simp
theorem rowTx_tx (d:Nat->Int) (n:Nat):rowTx (fun _=>⟨⟨[]⟩⟩) (fun j=>tx [d j]) n=tx ((List.range n).map d):=by
 unfold rowTx
 have e:∀ i,Txt.join ⟨⟨[]⟩⟩ [⟨⟨[]⟩⟩,tx [d i]]=tx [d i]:=fun i=>by
  rw [join2]
  show (⟨(⟨[]⟩:Array Nat)++(tx [d i]).cps⟩:Str)=_
  rw [show ((⟨[]⟩:Array Nat)++(tx [d i]).cps)=(tx [d i]).cps from by simp]
 simp only [e]
 rw [joinAll]
 show (⟨_⟩:Str)=⟨(((List.range n).map d).map sg).toArray⟩
 congr 1
 congr 1
 rw [List.map_map,List.map_map]
 induction n with
 | zero=>rfl
 | succ n ih =>
  rw [List.range_succ,List.map_append,List.flatten_append,ih,List.map_append]
  simp [tx]
theorem str_aft (K:GenK kt) (C:Cx (kt w.params) N 245 A s.heap) (lp:p<s.heap.objs.size) (its:Items s.heap x.vs Ts X Y ta tb) (nT:∀ j,j<x.vs.length->N≤Ts j) (nP:175<N) (np:N≤p) (lens:∀ j,j<x.vs.length->(X j).length<1000∧(Y j).length<1000)
 (hn:x.vs.length<1000) (hfg:3≤jf∧3≤jg∧3≤ji∧jf ≠ jg∧jf ≠ ji∧jg ≠ ji)
 (aft:GenAft (kt w.params) A s (adOf [p,pd,175] s.heap) 175 p pd jf jg ji 180 x p' w.params h1 g env) {rs:Rs} {tv:Tok} (ok1:rs.sκ.okc) (ok2:rs.sc.isCaller=false) (ok3:rs.sκ.len≤rs.sd) (ok4:rs.sd=0)
 (tail:∀ ad' t1 g1 (n:Str) t,(tailG (kt w.params) w ad' t1 g1 rs (.str n t)).dn valOf=some (some (.str n t),[],[],[]))
 (hR:∀ h' G' t' tk,KeepsP 175 s.heap h'->h'.get? 175=some p'->(kt w.params).Holds h' 1 0->s.heap.objs.size≤h'.objs.size->GB s.gens G'->R (.ok (.ret (.str (rowTx X Y x.vs.length) tk))) ⟨h',G',s.drawn,t',s.os⟩) :
 codeAny (model thePw w) (arK A (.cons rs.sc rs.sk rs.sκ)) (.call (.builtin "str.join") ⟨[.str ⟨⟨[]⟩⟩ tv,.ref (adOf [p,pd,175] s.heap jg)],[]⟩) (fun r s'=>Means thePw w A R false rs.sc (rs.sk r) rs.sκ s') ⟨h1,s.gens.push (.fresh (.compStart g.e 0 (.ref (adOf [p,pd,175] s.heap ji)) .none env)),s.drawn,t1,s.os⟩:=by
 have C1:Cx (kt w.params) N 225 A s.heap:=C.less (by decide)
 have Ca:=(C.to aft.base).under (D':=240) (k:=rs.sk) ok1 ok2 ok3 (by rw [ok4]; decide)
 have sc:ScOk g:=by
  have sh:=K.shape2 w
  unfold gShape at sh
  rw [aft.hg] at sh
  simp only [Bool.and_eq_true] at sh
  exact scopeOk_eq sh.2.1
 obtain ⟨fp,W,G0,hfp⟩:=gen_walks (F:=fun i v=>∃ t,v = .str (Txt.join ⟨⟨[]⟩⟩ [X i,Y i]) t) (t1:=t1) C1 lp aft its nT nP np sc hfg
  (fun A' E' i t u s₂ m₂ hi hk hn ma mb=>str_elt K aft.hg aft.sco aft.glo aft.bui hk hn ma mb (lens i hi).1 (lens i hi).2) (arK A (.cons rs.sc rs.sk rs.sκ)).in1.in1 Ca.hA (by have:=Ca.hd; show (arK A (.cons rs.sc rs.sk rs.sκ)).depth<_; exact om110 this)
 rw [passing_all,List.length_range] at W
 refine join_c W (fun i s' st=>?_) G0 hfp (List.mem_cons_self ..) (fun i v hv=>?_) (by unfold sizeLine; exact om117 hn) ?_
 · obtain ⟨o,nm,qn,ho,hc,_⟩:=st.1
   exact ⟨o,ho,hc⟩
 · obtain ⟨k,hk,t,e⟩:=hv
   exact ⟨_,t,e⟩
 · intro s' l hm hit
   have hl:l.map (·.1)=(List.range x.vs.length).map fun i=>Txt.join ⟨⟨[]⟩⟩ [X i,Y i]:=by
    have hsz:l.length=x.vs.length:=by
     have:=hit.1
     simpa [strValues] using this
    refine List.ext_getElem (by simp [hsz]) fun i h1 h2=>?_
    have hi:i<l.length:=by simpa using h1
    have q:=hit.2 i (.str l[i].1 l[i].2) (by simp [strValues,hi])
    obtain ⟨k,hk,t,e⟩:=q
    have:k=i:=by
     rw [List.getElem?_eq_some_iff] at hk
     obtain ⟨h1,h2⟩:=hk
     simpa using h2.symm
    subst this
    injection e with e1 e2
    simp [e1]
   have hjl:∀ x y:Str,(Txt.join ⟨⟨[]⟩⟩ [x,y]).length≤x.length + y.length:=fun x y=>joinLen x y
   have ok:JoinOk ⟨⟨[]⟩⟩ (l.map (·.1))=true:=by
    refine joinOk_of ?_
    rw [hl,List.length_map,List.length_range]
    have bound:∀ m,m≤x.vs.length->(((List.range m).map fun i=>Txt.join ⟨⟨[]⟩⟩ [X i,Y i]).map (·.length)).sum≤2000 * m:=by
     intro m
     induction m with
     | zero=>intro _; simp
     | succ m ih =>
      intro hm
      have z:=ih (by exact om4 hm)
      have h1:=hjl (X m) (Y m)
      have h2:=lens m (by exact om5 hm)
      rw [List.range_succ,List.map_append,List.map_append,List.sum_append]
      simp only [List.map_cons,List.map_nil,List.sum_cons,List.sum_nil]
      exact om118 z h1 h2
    have b:=bound _ (Nat.le_refl _)
    show _ + x.vs.length * 0≤_
    exact om119 hn b
   refine ⟨ok,fun t' k'=>?_⟩
   rw [hl]
   have ha:∀ j,3≤j->adOf [p,pd,175] s.heap j=s.heap.objs.size + (j - 3):=fun j hj=>adOf_high hj
   have notw:∀ b:Nat,b<s.heap.objs.size->b ∉ (adOf [p,pd,175] s.heap jf::[adOf [p,pd,175] s.heap ji]):=fun b hb hm=>by
    simp only [List.mem_cons,List.not_mem_nil,or_false] at hm
    rw [ha _ hfg.1,ha _ hfg.2.2.1] at hm
    exact om111 hb hm
   have hb':(kt w.params).Holds s'.heap 1 0:=holds_move aft.base fun b o eb e=>hm.heap b o (notw b (by
    have h1:=C.top b o eb
    exact om112 lp np h1)) e
   have Ct:Cx (kt w.params) N 215 A s'.heap:=(C.to hb').less (by decide)
   obtain ⟨sh',sg',sd',st',so'⟩:=s'
   obtain rfl:sd'=s.drawn:=hm.drawn
   obtain rfl:so'=s.os:=hm.os
   refine segG_dn Ct (ad:=adOf [] sh') ok1 ok2 ok3 (by exact om113 ok3 ok4) rfl (tail _ _ _ _ _) fun h2 t2 gs kp hs=>?_
   refine hR h2 _ t2 t' (fun b o hb e=>kp b o (hm.heap b o (notw b (Heap.lt_size e)) (aft.keep b o hb e))) (kp _ _ (hm.heap _ _ (notw 175 (by exact om120 lp nP np)) aft.pair)) (KT.Holds.keeps kp hb') ?_ (fun ab=>GB.app _ _ (AllBare.moved (ab.push rfl) hm.gens))
   obtain ⟨ga,gb,gen⟩:=aft.gen
   have z2:adOf [p,pd,175] s.heap jg<h2.objs.size:=Heap.lt_size (kp _ _ (hm.heap _ _ (fun hmem=>by
    simp only [List.mem_cons,List.not_mem_nil,or_false] at hmem
    have hm2:@Eq Nat (adOf [p,pd,175] s.heap jg) (adOf [p,pd,175] s.heap jf)∨@Eq Nat (adOf [p,pd,175] s.heap jg) (adOf [p,pd,175] s.heap ji):=hmem
    rw [ha _ hfg.1,ha _ hfg.2.2.1,ha _ hfg.2.1] at hm2
    exact om115 hfg hm2) gen))
   rw [ha _ hfg.2.1] at z2
   exact om116 z2
theorem str_c (K:GenK kt) {vs:List Value} {n v1 τ0 τ1:Nat} (C:Cx (kt w.params) N 245 A s.heap) (reg:s.heap.get? p=some (oInst 206 pd vs n)) (dict:s.heap.get? pd=some (oDict [ky w.params sSize τ0 (.int 0 τ1)] v1)) (ca:Ca2 s.heap)
 (its:Items s.heap vs Ts X Y ta tb) (nT:∀ j,j<vs.length->N≤Ts j) (nP:175<N) (hP:(kt w.params).get 175=none) (np:N≤p) (nd:N≤pd) (hpd:p ≠ pd) (lens:∀ j,j<vs.length->(X j).length<1000∧(Y j).length<1000) (hn:vs.length<1000)
 (hR:∀ h' G' t' tk,KeepsP 175 s.heap h'->Ca2 h'->(kt w.params).Holds h' 1 0->s.heap.objs.size≤h'.objs.size->GB s.gens G'->R (.ok (.ret (.str (rowTx X Y vs.length) tk))) ⟨h',G',s.drawn,t',s.os⟩) :
 codeAny (model thePw w) A (.call (.ref 180) ⟨[.ref p],[]⟩) R s:=by
 have hsome:(gpA (kt w.params) 180).isSome=true:=by
  have sh:=K.shape2 w
  unfold gShape at sh
  cases q:gpA (kt w.params) 180 with
  | none=>rw [q] at sh; cases sh
  | some _=>rfl
 rcases ca with e | ⟨t1,t2,cc,e⟩
 · have k:=K.str1 w (adOf [p,pd,175] s.heap) s.toks s.gens.size ⟨vs,n,v1,fun i=>match i with | 0=>τ0 | _=>τ1,0⟩
   have kt':=fun ad' t1 g1 n' t=>K.strT1 w (adOf [p,pd,175] s.heap) s.toks s.gens.size ⟨vs,n,v1,fun i=>match i with | 0=>τ0 | _=>τ1,0⟩ ad' t1 g1 n' t
   rw [adP_self] at k
   simp only [adP_self] at kt'
   refine seg_gen (x:=⟨vs,n,v1,fun i=>match i with | 0=>τ0 | _=>τ1,0⟩) (C.less (by decide)) (K.def2 _) hP hsome reg dict e np nd nP hpd _ rfl k fun h1 t1 g env aft ok1 ok2 ok3 ok4=>?_
   exact str_aft K C (Heap.lt_size reg) its nT nP np lens hn (by decide) aft ok1 ok2 ok3 ok4 kt' fun h' G' t' tk k1 k2 k3 k4 k5=>hR h' G' t' tk k1 (.inr ⟨_,_,_,k2⟩) k3 k4 k5
 · have k:=K.str2 w (adOf [p,pd,175] s.heap) s.toks s.gens.size ⟨vs,n,v1,fun i=>match i with | 0=>τ0 | 1=>τ1 | 2=>t1 | _=>t2,cc⟩
   have kt':=fun ad' t1' g1 n' t=>K.strT2 w (adOf [p,pd,175] s.heap) s.toks s.gens.size ⟨vs,n,v1,fun i=>match i with | 0=>τ0 | 1=>τ1 | 2=>t1 | _=>t2,cc⟩ ad' t1' g1 n' t
   rw [adP_self] at k
   simp only [adP_self] at kt'
   refine seg_gen (x:=⟨vs,n,v1,fun i=>match i with | 0=>τ0 | 1=>τ1 | 2=>t1 | _=>t2,cc⟩) (C.less (by decide)) (K.def2 _) hP hsome reg dict e np nd nP hpd _ rfl k fun h1 t1 g env aft ok1 ok2 ok3 ok4=>?_
   exact str_aft K C (Heap.lt_size reg) its nT nP np lens hn (by decide) aft ok1 ok2 ok3 ok4 kt' fun h' G' t' tk k1 k2 k3 k4 k5=>hR h' G' t' tk k1 (.inr ⟨_,_,_,k2⟩) k3 k4 k5
end
end
theorem Imp.ite {α:Type} {M:Model} {A:Around} {c:Code} {p:Prop} [Decidable p] {a a' b b':Sem α} (h:Imp M A c a a') (k:Imp M A c b b'):Imp M A c (if p then a else b) (if p then a' else b'):=by
 by_cases q:p
 · rw [if_pos q,if_pos q]; exact h
 · rw [if_neg q,if_neg q]; exact k
noncomputable def strofG:{ G:(String->List Value->Sem Unit)->Value->Sem Value // Builtin.Str.strOf=G cRoomFor ∧
 ∀ (M:Model) (A:Around) (c:Code) x y v,(∀ a b,Imp M A c (x a b) (y a b))->Imp M A c (G x v) (G y v) }:=by
 refine ⟨?G,?h,?k⟩
 case h =>
  unfold Builtin.Str.strOf
  have q1:(Str.ofString "__str__":Str)=⟨⟨[95,95,115,116,114,95,95]⟩⟩:=by decide +kernel
  simp only [q1,PySem.W.Fast.te9201129301070521445,PySem.W.Fast.te8364510232829398291,PySem.W.Fast.te8349319619548498818,PySem.W.Fast.te4082907035670056827]
  generalize cRoomFor=f
  exact rfl
 case k =>
  intro M A c x y v h
  try dsimp only
  repeat' (first | with_reducible exact Imp.refl _ | with_reducible exact h _ _ | with_reducible refine Imp.bind ?_ (fun _=>?_) | with_reducible refine Imp.ite ?_ ?_ | split)
noncomputable def strnG:{ G:(Value->Sem Value)->Args->Sem Fin // Builtin.«str.__new__» = G Builtin.Str.strOf ∧
 ∀ (M:Model) (A:Around) (c:Code) x y v,(∀ a,Imp M A c (x a) (y a))->Imp M A c (G x v) (G y v) }:=by
 refine ⟨?G,?h,?k⟩
 case h =>
  unfold Builtin.«str.__new__»
  simp only [PySem.W.Fast.te10380811246957099773,PySem.W.Fast.te16098473122060591676,PySem.W.Fast.te8691677486771839064,PySem.W.Fast.te6905046200447255374,PySem.W.Fast.te8364510232829398291,PySem.W.Fast.te10821573891100952770,PySem.W.Fast.te12314024073155659997,PySem.W.Fast.te17473776848826188608,PySem.W.Fast.te4267813433224596687,PySem.W.Fast.te4082907035670056827,PySem.W.Fast.te8349319619548498818,PySem.W.Fast.te15343874381740019533]
  generalize Builtin.Str.strOf=f
  exact rfl
 case k =>
  intro M A c x y v h
  try dsimp only
  repeat' (first | with_reducible exact Imp.refl _ | with_reducible exact h _ | with_reducible refine Imp.bind ?_ (fun _=>?_) | with_reducible refine Imp.ite ?_ ?_ | split)
theorem cRoomFor_imp {M:Model} {A:Around} {c:Code} (hu:A.units + c.cUnits<cLine) (a:String) (b:List Value):Imp M A c (pure ()) (cRoomFor a b):=fun Γ Q E p s hc hΓ x =>
 Sem.wp_cRoomFor a b (by
  have h1:Γ.units=Γ.code.cUnits + unitsOf Γ.below:=rfl
  have h2:=hΓ.2.2.2.2
  rw [hc] at h1
  exact om41 hu h1 h2) x
theorem strn_imp {M:Model} {A:Around} {c:Code} (hu:A.units + c.cUnits<cLine) (args:Args):Imp M A c (strnG.1 (strofG.1 fun _ _=>pure ()) args) (Builtin.«str.__new__» args):=by
 have e1:Builtin.«str.__new__» args=strnG.1 Builtin.Str.strOf args:=congrFun strnG.2.1 args
 rw [e1]
 refine strnG.2.2 _ _ _ _ _ _ fun v=>?_
 have e2:Builtin.Str.strOf v=strofG.1 cRoomFor v:=congrFun strofG.2.1 v
 rw [e2]
 exact strofG.2.2 _ _ _ _ _ _ (cRoomFor_imp hu)
theorem entry_strn:entryFor table "str.__new__" = some Builtin.«str.__new__»:=entryFor_of_tree (by kernel_rfl)
section
theorem update_congr {h:Heap} {a:Addr} {o:Obj} {f g:Obj->Obj} (e:h.get? a=some o) (q:f o=g o):h.update a f=h.update a g:=by
 obtain ⟨objs,l⟩:=h
 have hlt:a<objs.size:=Heap.lt_size e
 have hat:objs[a]? = some o:=by
  unfold Heap.get? at e
  split at e
  · cases e
  · exact e
 show (⟨objs.modify a f,l⟩:Heap)=⟨objs.modify a g,l⟩
 congr 1
 apply Array.ext
 · simp
 · intro i h1 h2
   rw [Array.getElem_modify,Array.getElem_modify]
   by_cases hi:a=i
   · subst hi
     rw [if_pos rfl,if_pos rfl]
     rw [Array.getElem?_eq_getElem hlt] at hat
     injection hat with hat
     rw [hat,q]
   · rw [if_neg hi,if_neg hi]
noncomputable def updT (a:Addr) (f:Obj->Obj) (r:Value):Sem Fin:=.update a none f fun _=>.pure (.done (.ret r))
noncomputable def toSeq (xs:List Value) (n:Nat) (o:Obj):Obj:=⟨o.cls,o.dict,.seq ⟨xs⟩ n,o.slots⟩
section
variable {prog:Program} {w:World} {A:Around} {R:Result->Shared->Prop} {s:Shared} {a:Addr} {o:Obj} {xs:List Value} {n:Nat}
theorem mapSeq_eq {f:Array Value->Array Value} {ys:List Value} (hd:o.data = .seq ⟨xs⟩ n) (hf:f ⟨xs⟩=⟨ys⟩):Obj.mapSeq f o=toSeq ys (if ys.length=xs.length then n else n + 1) o:=by
 obtain ⟨c,d,dt,sl⟩:=o
 obtain rfl:dt = .seq ⟨xs⟩ n:=hd
 show (⟨c,d,.seq (f ⟨xs⟩) (if (f ⟨xs⟩).size == xs.length then n else n + 1),sl⟩:Obj)=_
 rw [hf]
 unfold toSeq
 congr 2
 by_cases q:ys.length=xs.length
 · rw [if_pos q]
   exact if_pos (beq_iff_eq.mpr q)
 · rw [if_neg q]
   exact if_neg (by simpa using q)
theorem appendSp {v:Value} (ho:s.heap.get? a=some o) (hd:o.data = .seq ⟨xs⟩ n) (hz:xs.length + 1≤sizeLine)
 (x:wpOwn (model prog w) A (.builtin "list.append" ⟨[.ref a,v],[]⟩) (updT a (toSeq (xs++[v]) (n + 1)) .none) (postC prog w A R) (postE R) s):codeAny (model prog w) A (.builtin "list.append" ⟨[.ref a,v],[]⟩) R s:=by
 intro Γ p hc hΓ
 have y:R (.ok (.ret .none)) { s with heap:=s.heap.update a (toSeq (xs++[v]) (n + 1)) }:=(x Γ p hc hΓ).2
 refine (codeAny_builtin F.entry_list_append ?_:codeAny (model prog w) A (.builtin "list.append" ⟨[.ref a,v],[]⟩) R s) Γ p hc hΓ
 rw [Around.under_plainId (by decide +kernel) _]
 have e:Obj.mapSeq (·.push v) o=toSeq (xs++[v]) (n + 1) o:=by
  rw [mapSeq_eq (ys:=xs++[v]) hd (by simp),if_neg (by simp)]
 rw [← update_congr ho e] at y
 show wpAny _ _ (updateSeq a (·.push v) >>= fun _=>ret .none) _ _ s
 exact wpAny_bind (wpAny_updateSeq ho hd (wpAny_pure y) (by show xs.length≤_; exact om4 hz) (by show ((⟨xs⟩:Array Value).push v).size≤_; rw [Array.size_push]; show xs.length + 1≤_; exact om269 hz))
theorem popSp {v:Value} (ho:s.heap.get? a=some o) (hd:o.data = .seq ⟨xs++[v]⟩ n) (hz:xs.length + 1≤sizeLine)
 (x:wpOwn (model prog w) A (.builtin "list.pop" ⟨[.ref a],[]⟩) (updT a (toSeq xs (n + 1)) v) (postC prog w A R) (postE R) s):codeAny (model prog w) A (.builtin "list.pop" ⟨[.ref a],[]⟩) R s:=by
 intro Γ p hc hΓ
 have y:R (.ok (.ret v)) { s with heap:=s.heap.update a (toSeq xs (n + 1)) }:=(x Γ p hc hΓ).2
 refine (codeAny_builtin F.entry_list_pop ?_:codeAny (model prog w) A (.builtin "list.pop" ⟨[.ref a],[]⟩) R s) Γ p hc hΓ
 rw [Around.under_plainId (by decide +kernel) _]
 have hf:(⟨xs++[v]⟩:Array Value).eraseIdxIfInBounds xs.length=⟨xs⟩:=by
  unfold Array.eraseIdxIfInBounds
  have hlt:xs.length<(⟨xs++[v]⟩:Array Value).size:=by simp
  rw [dif_pos hlt]
  apply Array.ext'
  rw [Array.toList_eraseIdx]
  rw [List.eraseIdx_append_of_length_le (Nat.le_refl _)]
  simp
 have e:Obj.mapSeq (·.eraseIdxIfInBounds xs.length) o=toSeq xs (n + 1) o:=by
  rw [mapSeq_eq (ys:=xs) hd hf,if_neg (by simp)]
 rw [← update_congr ho e] at y
 show wpAny _ _ (Builtin.List.listItems (.ref a) >>= fun xs=>_) _ _ s
 unfold Builtin.List.listItems
 refine wpAny_bind (wpAny_bind (wpAny_seqItems ho hd (wpAny_pure ?_)))
 have h0:((⟨xs++[v]⟩:Array Value).isEmpty)=false:=by simp
 simp only [h0,Bool.false_eq_true,if_false]
 have hs:seqIndex? (-1) (⟨xs++[v]⟩:Array Value).size=some xs.length:=by
  unfold seqIndex?
  have e1:(⟨xs++[v]⟩:Array Value).size=xs.length + 1:=by simp
  rw [e1]
  have e2:(if (-1:Int)<0 then (-1:Int) + ((xs.length + 1:Nat):Int) else -1)=(xs.length:Int):=by rw [if_pos (by decide)]; exact om270
  simp only [e2]
  rw [if_pos (by simp; exact om271)]
  simp
 have hx:(⟨xs++[v]⟩:Array Value)[xs.length]? = some v:=by simp
 simp only [hs,Option.bind_some,hx,Option.map_some]
 refine wpAny_bind (m:=updateSeq a _) (wpAny_updateSeq ho hd (wpAny_pure y) (by show (xs++[v]).length≤_; simp; exact om272 hz) ?_)
 rw [hf]
 show xs.length≤_
 exact om273 hz
theorem setAllSp {b c:Addr} {ys:List Value} {m:Nat} {ob:Obj} (hab:a ≠ b) (ho:s.heap.get? a=some o) (hd:o.data = .seq ⟨xs⟩ n) (hsl:s.heap.IsSliceOf c .none .none .none) (hb:s.heap.get? b=some ob) (hbc:ob.cls = .type "list") (hbd:ob.data = .seq ⟨ys⟩ m) (hz:xs.length + ys.length≤sizeLine)
 (x:wpOwn (model prog w) A (.builtin "list.__setitem__" ⟨[.ref a,.ref c,.ref b],[]⟩) (updT a (toSeq ys (if ys.length=xs.length then n else n + 1)) .none) (postC prog w A R) (postE R) s):codeAny (model prog w) A (.builtin "list.__setitem__" ⟨[.ref a,.ref c,.ref b],[]⟩) R s:=by
 intro Γ p hc hΓ
 have y:R (.ok (.ret .none)) { s with heap:=s.heap.update a (toSeq ys (if ys.length=xs.length then n else n + 1)) }:=(x Γ p hc hΓ).2
 refine (codeAny_builtin F.entry_list_setitem ?_:codeAny (model prog w) A (.builtin "list.__setitem__" ⟨[.ref a,.ref c,.ref b],[]⟩) R s) Γ p hc hΓ
 rw [Around.under_plainId (by decide +kernel) _]
 have hf:(fun zs:Array Value=>zs.extract 0 (0:Int).toNat++(⟨ys⟩:Array Value)++zs.extract (max (0:Int) (xs.length:Int)).toNat zs.size) ⟨xs⟩=⟨ys⟩:=by
  have e1:(max (0:Int) (xs.length:Int)).toNat=xs.length:=by exact om274
  apply Array.ext'
  simp [e1]
 have e:Obj.mapSeq (fun zs:Array Value=>zs.extract 0 (0:Int).toNat++(⟨ys⟩:Array Value)++zs.extract (max (0:Int) (xs.length:Int)).toNat zs.size) o=_:=mapSeq_eq (ys:=ys) hd hf
 rw [← update_congr ho e] at y
 obtain ⟨osl,hos,hsc,hsd⟩:=hsl
 have hnl:b ≠ a:=fun q=>hab q.symm
 show wpAny _ _ (Builtin.List.listSubscript? (.ref c) >>= _) _ _ s
 refine wpAny_bind ?_
 unfold Builtin.List.listSubscript?
 refine wpAny_bind (wpAny_specialOf (T:="slice") ⟨_,hos,hsc⟩ slice_no_index ?_)
 refine wpAny_pure ?_
 refine wpAny_bind (wpAny_typeOf (T:="slice") ⟨_,hos,hsc⟩ ?_)
 rw [if_neg (by decide)]
 show wpAny _ _ (Builtin.List.listSliceParts (.ref c) >>= _) _ _ s
 rw [listSliceParts_eq]
 refine wpAny_bind (wpAny_bind (wpAny_field hos hsd (x:=.none) rfl (wpAny_bind (wpAny_listPart (k:=none) .none ?_))))
 show wpAny _ _ (if (Value.none == rawInt 0)=true then _ else _) _ _ s
 rw [if_neg (by decide)]
 refine wpAny_bind (wpAny_field hos hsd (x:=.none) rfl (wpAny_bind (wpAny_listPart (k:=none) .none (wpAny_bind (wpAny_field hos hsd (x:=.none) rfl (wpAny_bind (wpAny_listPart (k:=none) .none (wpAny_pure ?_))))))))
 show wpAny _ _ (if Builtin.List.listSameRef (.ref a) (.ref b)=true then _ else _) _ _ s
 rw [if_neg (by show ¬ ((a == b)=true); simpa using hab)]
 refine wpAny_bind ?_
 unfold Builtin.List.listAllItems
 refine wpAny_bind (wpAny_typeOf (T:="list") ⟨_,hb,hbc⟩ ?_)
 rw [if_pos (by decide)]
 unfold Builtin.List.listItems
 refine wpAny_bind (wpAny_seqItems hb hbd (wpAny_pure ?_))
 show wpAny _ _ ((seqItems? (.ref a) >>= _) >>= _) _ _ s
 refine wpAny_bind (wpAny_bind (wpAny_seqItems ho hd (wpAny_pure ?_)))
 refine wpAny_bind (wpAny_of_eq (sliceIndices_raw none none none (⟨xs⟩:Array Value).size (by simp)) ?_)
 show wpAny _ _ (if ((1:Int) == 1)=true then _ else _) _ _ s
 rw [if_pos (by decide)]
 refine wpAny_bind (wpAny_rule ?_)
 have htl:Builtin.List.listTooLong ((⟨xs⟩:Array Value).size + (⟨ys⟩:Array Value).size)=false:=by
  show decide (xs.length + ys.length > sizeLine)=false
  exact decide_eq_false (by exact om125 hz)
 show wpAny _ _ (if Builtin.List.listTooLong ((⟨xs⟩:Array Value).size + (⟨ys⟩:Array Value).size)=true then _ else _) _ _ s
 rw [htl,if_neg (by decide)]
 have hf2:((⟨xs⟩:Array Value).extract 0 (0:Int).toNat++(⟨ys⟩:Array Value)++(⟨xs⟩:Array Value).extract (max (0:Int) (xs.length:Int)).toNat (⟨xs⟩:Array Value).size)=⟨ys⟩:=hf
 refine wpAny_bind (m:=updateSeq a _) (wpAny_updateSeq ho hd (wpAny_bind (wpAny_letGo (wpAny_pure y))) (by show xs.length≤_; exact om126 hz) ?_)
 show ((⟨xs⟩:Array Value).extract 0 (0:Int).toNat++(⟨ys⟩:Array Value)++(⟨xs⟩:Array Value).extract (max (0:Int) (xs.length:Int)).toNat (⟨xs⟩:Array Value).size).size≤_
 rw [hf2]
 show ys.length≤_
 exact om275 hz
theorem strNextSp {x:Str} {t:Tok} {k c:Nat} (ho:s.heap.get? a=some o) (hd:o.data = .fields ⟨[.str x t,.int (k:Int) 0]⟩) (hx:x.cps[k]? = some c)
 (h:wpOwn (model prog w) A (.builtin "str_ascii_iterator.__next__" ⟨[.ref a],[]⟩) (.update a none (fun o=>⟨o.cls,o.dict,.fields ⟨[.str x t,.int ((k:Int) + 1) 0]⟩,o.slots⟩) fun _=>.fresh fun u=>.pure (.done (.ret (.str ⟨#[c]⟩ u)))) (postC prog w A R) (postE R) s):codeAny (model prog w) A (.builtin "str_ascii_iterator.__next__" ⟨[.ref a],[]⟩) R s:=by
 intro Γ p hc hΓ
 have y:R (.ok (.ret (.str ⟨#[c]⟩ s.toks))) { s with heap:=s.heap.update a (fun o=>⟨o.cls,o.dict,.fields ⟨[.str x t,.int ((k:Int) + 1) 0]⟩,o.slots⟩),toks:=s.toks + 1 }:=(h Γ p hc hΓ).2
 refine (codeAny_builtin F.entry_str_ascii_iterator_next ?_:codeAny (model prog w) A (.builtin "str_ascii_iterator.__next__" ⟨[.ref a],[]⟩) R s) Γ p hc hΓ
 rw [Around.under_plainId (by decide +kernel) _]
 have e:Obj.mapFields (·.setIfInBounds 1 (rawInt ((k:Int) + 1))) o=(fun o:Obj=>(⟨o.cls,o.dict,.fields ⟨[.str x t,.int ((k:Int) + 1) 0]⟩,o.slots⟩:Obj)) o:=by
  obtain ⟨oc,od,dt,sl⟩:=o
  obtain rfl:dt = .fields ⟨[.str x t,.int (k:Int) 0]⟩:=hd
  rfl
 rw [← update_congr ho e] at y
 show wpAny _ _ (field (.ref a) 0 >>= _) _ _ s
 refine wpAny_bind (wpAny_field ho hd (x:=.str x t) rfl ?_)
 show wpAny _ _ (field (.ref a) 1 >>= _) _ _ s
 refine wpAny_bind (wpAny_field ho hd (x:=.int k 0) rfl ?_)
 simp only [Int.toNat_natCast,hx]
 exact wpAny_bind (wpAny_setField ho hd (by simp) (wpAny_bind (wpAny_mkStr (wpAny_pure y))))
end
end
section
open PySem.AutoSeq1 (wpAny_loadPart')
theorem iadd_lt (l:Addr) (items:Array Value) (n:Nat) (b:Addr) (items2:Array Value) (n2:Nat) (hs0:¬(!items.isEmpty && Builtin.List.listTooLong (items.size + items2.size))=true) (hs1:items.size≤sizeLine) (hs2:items.size + items2.size≤sizeLine + 1) :
 Meets (Builtin.«list.__iadd__» ⟨[.ref l,.ref b],[]⟩) (fun _ R s=>s.heap.get? l=some { cls:=.type "list",dict:=none,data:=.seq items n,slots:=#[] }∧s.heap.get? b=some { cls:=.type "tuple",dict:=none,data:=.seq items2 n2,slots:=#[] } ∧
  R (.ok (.ret (Value.ref l))) { s with heap:=s.heap.update l (Obj.mapSeq fun x=>x++items2),toks:=s.toks }) :=
 .of_wp fun prog w A R s h=>by
  obtain ⟨hp,g,d,tk,os⟩:=s
  obtain ⟨hl,hb,h⟩:=h
  have f2:=AutoSeq1.sub_tuple_tuple
  have f3:=AutoSeq1.sub_list_list
  have f4:=AutoSeq1.sub_tuple_list
  have f5:=AutoSeq1.sub_list_tuple
  have hz':(items++items2).size≤sizeLine + 1:=by rw [Array.size_append]; exact hs2
  wp_walk using (wpAny_updateSeq hl rfl (hz:=hs1) (_hz':=hz')),wpAny_loadPart' hl,wpAny_loadPart' hb
  exact ⟨_,rfl,h⟩
section
variable {prog:Program} {w:World} {A:Around} {R:Result->Shared->Prop} {s:Shared} {a b:Addr} {xs ys:List Value} {n m:Nat}
theorem iaddSp (ho:s.heap.get? a=some ⟨.type "list",none,.seq ⟨xs⟩ n,#[]⟩) (hb:s.heap.get? b=some ⟨.type "tuple",none,.seq ⟨ys⟩ m,#[]⟩) (hz:xs.length + ys.length≤sizeLine)
 (x:wpOwn (model prog w) A (.builtin "list.__iadd__" ⟨[.ref a,.ref b],[]⟩) (updT a (toSeq (xs++ys) (if (xs++ys).length=xs.length then n else n + 1)) (.ref a)) (postC prog w A R) (postE R) s):codeAny (model prog w) A (.builtin "list.__iadd__" ⟨[.ref a,.ref b],[]⟩) R s:=by
 intro Γ p hc hΓ
 have y:R (.ok (.ret (.ref a))) { s with heap:=s.heap.update a (toSeq (xs++ys) (if (xs++ys).length=xs.length then n else n + 1)) }:=(x Γ p hc hΓ).2
 refine (codeAny_builtin F.entry_list_iadd ?_:codeAny (model prog w) A (.builtin "list.__iadd__" ⟨[.ref a,.ref b],[]⟩) R s) Γ p hc hΓ
 rw [Around.under_plainId (by decide +kernel) _]
 have e:Obj.mapSeq (fun z=>z++(⟨ys⟩:Array Value)) (⟨.type "list",none,.seq ⟨xs⟩ n,#[]⟩:Obj)=_:=mapSeq_eq (ys:=xs++ys) rfl (by apply Array.ext'; simp)
 rw [← update_congr ho e] at y
 have htl:Builtin.List.listTooLong ((⟨xs⟩:Array Value).size + (⟨ys⟩:Array Value).size)=false:=by
  show decide (xs.length + ys.length > sizeLine)=false
  exact decide_eq_false (by exact om125 hz)
 exact iadd_lt a ⟨xs⟩ n b ⟨ys⟩ m (by rw [htl,Bool.and_false]; decide) (by show xs.length≤_; exact om126 hz) (by show xs.length + ys.length≤_; exact om127 hz) prog w A R s ⟨ho,hb,y⟩
end
end
section
noncomputable def richG:{ G:(String->List Value->Sem Unit)->CmpOp->Value->Value->Sem Value // (∀ op a b,richCompare op a b=G cRoomFor op a b) ∧
 ∀ (M:Model) (A:Around) (c:Code) x y op a b,(∀ u v,Imp M A c (x u v) (y u v))->Imp M A c (G x op a b) (G y op a b) }:=by
 refine ⟨?G,?h,?k⟩
 case h =>
  intro op a b
  unfold richCompare
  simp only [PySem.W.Fast.te13092491172507696223,PySem.W.Fast.te363932546726248868,PySem.W.Fast.te14684505520029207082,PySem.W.Fast.te3989567798202555795,PySem.W.Fast.te2518677612232015263,PySem.W.Fast.te8349319619548498818,PySem.W.Fast.te4082907035670056827,PySem.W.Fast.te16098473122060591676]
  generalize cRoomFor=f
  exact rfl
 case k =>
  intro M A c x y op a b h
  try dsimp only
  refine Imp.holding ?_
  exact Imp.bind (h _ _) fun _=>Imp.refl _
noncomputable abbrev evF:Expr->Env->Sem Value:=PySem.W.Fast.tw14044960220447912780
noncomputable def cmpT (op:CmpOp) (l r:Expr) (cp:Pos) (env:Env):Sem Value :=
 PySem.W.R.bindR (evF l env) fun a=>PySem.W.R.bindR (PySem.W.Fast.tw17359229931016689406 [a] (PySem.W.Fast.tw10513115210890433525 op r (evF r env))) fun b=>PySem.W.R.bindR (standAt cp) fun _ =>
  PySem.W.Fast.tw8004119333741010377 [a,b] (richG.1 (fun _ _=>pure ()) op a b)
noncomputable def tstT (op:CmpOp) (l r:Expr) (cp:Pos) (env:Env):Sem Bool :=
 PySem.W.R.bindR (evF l env) fun a=>PySem.W.R.bindR (PySem.W.Fast.tw17359229931016689406 [a] (PySem.W.Fast.tw10513115210890433525 op r (evF r env))) fun b=>PySem.W.R.bindR (standAt cp) fun _ =>
  PySem.W.R.bindR (PySem.W.Fast.tw8004119333741010377 [a,b] (richG.1 (fun _ _=>pure ()) op a b)) fun c=>PySem.W.Fast.tw17359229931016689406 [c] (PySem.W.Fast.tw15245631507167962100 c)
section
variable {M:Model} {A:Around} {c:Code}
theorem Imp.operate {vs:List Value} {m m':Sem Value} (h:Imp M A c m m'):Imp M A c (PySem.operate vs m) (PySem.operate vs m'):=by
 unfold PySem.operate
 exact Imp.bind (Imp.holding h) fun _=>Imp.refl _
theorem rich_imp (hu:A.units + c.cUnits<cLine) (op:CmpOp) (a b:Value):Imp M A c (richG.1 (fun _ _=>pure ()) op a b) (richCompare op a b):=by
 rw [richG.2.1]
 exact richG.2.2 _ _ _ _ _ _ _ _ (cRoomFor_imp hu)
theorem tst_imp (hu:A.units + c.cUnits<cLine) {op:CmpOp} (ho:∀ a b,compareOp op a b=richCompare op a b) (l r:Expr) (cp:Pos) (env:Env):Imp M A c (tstT op l r cp env) (isTrue (.Compare l [op] [r] cp) env (eval (.Compare l [op] [r] cp) env)):=by
 have e:isTrue (.Compare l [op] [r] cp) env (eval (.Compare l [op] [r] cp) env)=(eval l env >>= fun a=>holding [a] (markedBehindIn op r (eval r env)) >>= fun b=>standAt cp >>= fun _=>operate [a,b] (compareOp op a b) >>= fun c=>holding [c] (truthy c)):=rfl
 rw [e]
 unfold tstT evF
 rw [← PySem.W.Fast.te14044960220447912780,← PySem.W.Fast.te17359229931016689406,← PySem.W.Fast.te10513115210890433525,← PySem.W.Fast.te8004119333741010377,← PySem.W.Fast.te15245631507167962100]
 simp only [← PySem.W.R.bindR_eq,ho]
 exact Imp.bind (Imp.refl _) fun a=>Imp.bind (Imp.refl _) fun b=>Imp.bind (Imp.refl _) fun _=>Imp.bind (Imp.operate (rich_imp hu op a b)) fun _=>Imp.refl _
theorem cmp_imp (hu:A.units + c.cUnits<cLine) {op:CmpOp} (ho:∀ a b,compareOp op a b=richCompare op a b) (l r:Expr) (cp:Pos) (env:Env):Imp M A c (cmpT op l r cp env) (eval (.Compare l [op] [r] cp) env):=by
 have e:eval (.Compare l [op] [r] cp) env=(eval l env >>= fun a=>holding [a] (markedBehindIn op r (eval r env)) >>= fun b=>standAt cp >>= fun _=>operate [a,b] (compareOp op a b)):=rfl
 rw [e]
 unfold cmpT evF
 rw [← PySem.W.Fast.te14044960220447912780,← PySem.W.Fast.te17359229931016689406,← PySem.W.Fast.te10513115210890433525,← PySem.W.Fast.te8004119333741010377]
 simp only [← PySem.W.R.bindR_eq,ho]
 exact Imp.bind (Imp.refl _) fun a=>Imp.bind (Imp.refl _) fun b=>Imp.bind (Imp.refl _) fun _=>Imp.operate (rich_imp hu op a b)
end
noncomputable abbrev exF:List Stmt->Env->Sem Flow:=PySem.W.Fast.tw12563942051412417395
noncomputable def retQ:{ G:Sem Value->CmpOp->Expr->Expr->Pos->Pos->Env->Sem Flow // (∀ op l r cp rp env,exec (.Return (some (.Compare l [op] [r] cp)) rp) env=G (eval (.Compare l [op] [r] cp) env) op l r cp rp env) ∧
 ∀ (M:Model) (A:Around) (c:Code) x y op l r cp rp env,Imp M A c x y->Imp M A c (G x op l r cp rp env) (G y op l r cp rp env) }:=by
 refine ⟨?G,?h,?k⟩
 case h =>
  intro op l r cp rp env
  have e1:evalOpt (some (.Compare l [op] [r] cp)) env=some (eval (.Compare l [op] [r] cp) env):=rfl
  rw [arm_exec_Return]
  simp only [e1]
  generalize eval (.Compare l [op] [r] cp) env=x
  exact rfl
 case k =>
  intro M A c x y op l r cp rp env h
  try dsimp only
  repeat' (first | with_reducible exact Imp.refl _ | with_reducible exact h | with_reducible refine Imp.bind ?_ (fun _=>?_) | with_reducible refine Imp.ite ?_ ?_ | split)
noncomputable def ifC (st:Stmt):Option ((Expr×Expr×Pos)×List Stmt×List Stmt×Pos) :=
 (ifE st).bind fun i=>(cmpE i.1).bind fun c=>cond (isNE c.2.1) (some ((c.1,c.2.2.1,c.2.2.2),i.2)) none
theorem ifC_some {st:Stmt} {x:(Expr×Expr×Pos)×List Stmt×List Stmt×Pos} (h:ifC st=some x):st = .If (.Compare x.1.1 [.NotEq] [x.1.2.1] x.1.2.2) x.2.1 x.2.2.1 x.2.2.2:=by
 obtain ⟨⟨i1,i2⟩,h1,h⟩:=bind_some h
 obtain ⟨⟨c1,c2,c3,c4⟩,h2,h⟩:=bind_some h
 obtain ⟨h3,h⟩:=cond_some h
 obtain rfl:=Option.some.inj h
 obtain rfl:=isNE_eq h3
 obtain rfl:=cmpE_some h2
 exact ifE_some h1
noncomputable def retCmp (st:Stmt):Option ((Expr×Expr×Pos)×Pos) :=
 (retE st).bind fun i=>(cmpE i.1).bind fun c=>cond (isEQ c.2.1) (some ((c.1,c.2.2.1,c.2.2.2),i.2)) none
theorem retCmp_some {st:Stmt} {x:(Expr×Expr×Pos)×Pos} (h:retCmp st=some x):st = .Return (some (.Compare x.1.1 [.Eq] [x.1.2.1] x.1.2.2)) x.2:=by
 obtain ⟨⟨i1,i2⟩,h1,h⟩:=bind_some h
 obtain ⟨⟨c1,c2,c3,c4⟩,h2,h⟩:=bind_some h
 obtain ⟨h3,h⟩:=cond_some h
 obtain rfl:=Option.some.inj h
 obtain rfl:=isEQ_eq h3
 obtain rfl:=cmpE_some h2
 exact retE_some h1
noncomputable def stT (st:Stmt) (env:Env):Sem Flow :=
 elO (ifC st) (fun x=>PySem.W.R.bindR (standAt x.2.2.2) fun _=>PySem.W.R.bindR (tstT .NotEq x.1.1 x.1.2.1 x.1.2.2 env) fun t=>match t with
  | true=>exF x.2.1 env
  | false=>exF x.2.2.1 env)
 (elO (retCmp st) (fun x=>retQ.1 (cmpT .Eq x.1.1 x.1.2.1 x.1.2.2 env) .Eq x.1.1 x.1.2.1 x.1.2.2 x.2 env) (exF [st] env))
noncomputable def bodyT:List Stmt->Env->Sem Flow
 | [],_=>.pure .next
 | st::r,env=>PySem.W.R.bindR (stT st env) fun f=>match f with
  | .next=>bodyT r env
  | f=>.pure f
theorem st_imp {M:Model} {A:Around} {c:Code} (hu:A.units + c.cUnits<cLine) (st:Stmt) (env:Env):Imp M A c (stT st env) (exec st env):=by
 refine elO_ind (P:=fun t=>Imp M A c t (exec st env)) (fun x hx=>?_) (elO_ind (P:=fun t=>Imp M A c t (exec st env)) (fun x hx=>?_) ?_)
 · obtain ⟨⟨l,r,cp⟩,b,o,ip⟩:=x
   obtain rfl:=ifC_some hx
   have e:exec (.If (.Compare l [.NotEq] [r] cp) b o ip) env=(standAt ip >>= fun _=>isTrue (.Compare l [.NotEq] [r] cp) env (eval (.Compare l [.NotEq] [r] cp) env) >>= fun t=>if t=true then execs b env else execs o env):=rfl
   rw [e,← PySem.W.R.bindR_eq]
   refine Imp.bind (Imp.refl _) fun _=>Imp.bind (tst_imp hu (fun _ _=>rfl) l r cp env) fun t=>?_
   cases t with
   | true =>
    show Imp M A c (PySem.W.Fast.tw12563942051412417395 b env) (execs b env)
    rw [← PySem.W.Fast.te12563942051412417395]
    exact Imp.refl _
   | false =>
    show Imp M A c (PySem.W.Fast.tw12563942051412417395 o env) (execs o env)
    rw [← PySem.W.Fast.te12563942051412417395]
    exact Imp.refl _
 · obtain ⟨⟨l,r,cp⟩,rp⟩:=x
   obtain rfl:=retCmp_some hx
   rw [retQ.2.1]
   exact retQ.2.2 _ _ _ _ _ _ _ _ _ _ _ (cmp_imp hu (fun _ _=>rfl) _ _ _ _)
 · show Imp M A c (PySem.W.Fast.tw12563942051412417395 [st] env) (exec st env)
   rw [← PySem.W.Fast.te12563942051412417395]
   exact exec_one _ _ _ _ _
theorem body_imp {M:Model} {A:Around} {c:Code} (hu:A.units + c.cUnits<cLine):∀ (body:List Stmt) (env:Env),Imp M A c (bodyT body env) (execs body env)
 | [],_=>Imp.refl _
 | st::r,env=>by
  have e:execs (st::r) env=(exec st env >>= fun f=>match f with | .next=>execs r env | f=>pure f):=rfl
  rw [e]
  unfold bodyT
  rw [← PySem.W.R.bindR_eq]
  refine Imp.bind (st_imp hu st env) fun f=>?_
  cases f with
  | next=>exact body_imp hu r env
  | _=>exact Imp.refl _
noncomputable def funcG:{ G:Sem Flow->Env->Sem Fin // (∀ body env,denote table (.func body env)=G (execs body env) env) ∧
 ∀ (M:Model) (A:Around) (c:Code) x y env,Imp M A c x y->Imp M A c (G x env) (G y env) }:=by
 refine ⟨?G,?h,?k⟩
 case h =>
  intro body env
  delta denote
  dsimp only
  generalize execs body env=x
  exact rfl
 case k =>
  intro M A c x y env h
  try dsimp only
  repeat' (first | with_reducible exact Imp.refl _ | with_reducible exact h | with_reducible refine Imp.bind ?_ (fun _=>?_) | with_reducible refine Imp.onRaise ?_ | split)
end
section
structure Ct where
 objs:List Obj
 res:Value
 φ:Prop
structure En2 where
 sp:Nat->Code->BT->(Nat->Nat)->Option (Sem Fin×Prop)
 ct:Nat->Code->BT->(Nat->Nat)->Nat->(Nat->Nat)->Nat->Option Ct
 st:Setting
 kt:KT
inductive Rs2
 | bad (why:Nat)
 | done (r:Result) (T:BT) (m i:Nat) (ob:List (Nat×Nat)) (op:List Prop) (sb:List (Sem Fin×Sem Fin))
 | stop (c':Code) (c:Code) (k:Result->Sem Fin) (κ:Kn) (d:Nat) (T:BT) (m i:Nat) (ob:List (Nat×Nat)) (op:List Prop) (sb:List (Sem Fin×Sem Fin))
 | again (c':Code) (κ:Kn) (d:Nat) (T:BT) (m i:Nat) (ob:List (Nat×Nat)) (op:List Prop) (sb:List (Sem Fin×Sem Fin))
noncomputable def Rs2.ob:Rs2->List (Nat×Nat)
 | .bad _=>[]
 | .done _ _ _ _ ob _ _=>ob
 | .stop _ _ _ _ _ _ _ _ ob _ _=>ob
 | .again _ _ _ _ _ _ ob _ _=>ob
noncomputable def Rs2.op:Rs2->List Prop
 | .bad _=>[]
 | .done _ _ _ _ _ op _=>op
 | .stop _ _ _ _ _ _ _ _ _ op _=>op
 | .again _ _ _ _ _ _ _ op _=>op
noncomputable def Rs2.sb:Rs2->List (Sem Fin×Sem Fin)
 | .bad _=>[]
 | .done _ _ _ _ _ _ sb=>sb
 | .stop _ _ _ _ _ _ _ _ _ _ sb=>sb
 | .again _ _ _ _ _ _ _ _ sb=>sb
noncomputable def Rs2.isBad:Rs2->Prop
 | .bad _=>True
 | _=>False
noncomputable def roomT:Nat->Sem Unit
 | 1=>PySem.W.Fast.tw13383273872528276517 "comparison" [.ref 0]
 | 2=>PySem.W.Fast.tw13383273872528276517 "str" [.ref 0]
 | _=>.unsupported ""
noncomputable def insL:BT->Nat->List Obj->Option BT
 | T,_,[]=>some T
 | T,m,x::l=>match x.isFreed with
  | true=>none
  | false=>match (T.ins m x).get m with
   | some _=>insL (T.ins m x) (m + 1) l
   | none=>none
noncomputable def run2 (E:En2) (ad tk:Nat->Nat):Nat->Bool->Code->Sem Fin->Kn->Nat->BT->Nat->Nat->Nat->List (Nat×Nat)->List Prop->List (Sem Fin×Sem Fin)->Rs2
 | 0,_,_,_,_,_,_,_,_,_,_,_,_=>.bad 0
 | n + 1,b,c,t,κ,d,T,m,i,o,ob,op,sb=>match t with
  | .pure f=>match f with
   | .done f=>bO b (.bad 17) (match κ with
    | .nil=>.done (.ok f) T m i ob op sb
    | .cons c₁ k κ=>run2 E ad tk n false c₁ (k (.ok f)) κ (d - 1) T m i o ob op sb)
   | .again c'=>bO (quietF c') (bO (callerF c') (.bad 22) (nO (o % 256) (run2 E ad tk n false c' (denF c') κ d T m i (o / 256) ob op sb) fun q=>nO q (.again c' κ d T m i ob op sb) fun q=>nO q
    (elO (callR c') (fun f=>elO (defAt E.kt f.1) (fun p=>run2 E ad tk n true c' (callF f.1 f.2 p) κ d T m i (o / 256) ob op sb) (.bad 19)) (.bad 20)) fun q =>
    elO (E.sp q c' T ad) (fun p=>run2 E ad tk n false c' p.1 κ d T m i (o / 256) ob (p.2::op) sb) (.bad 1))) (.bad 2)
  | .raise e=>match κ with
   | .nil=>.done (.error e) T m i ob op sb
   | .cons c₁ k κ=>run2 E ad tk n false c₁ (k (.error e)) κ (d - 1) T m i o ob op sb
  | .rule _ k=>run2 E ad tk n b c (k ()) κ d T m i o ob op sb
  | .at _ k=>run2 E ad tk n b c (k ()) κ d T m i o ob op sb
  | .point _ k=>run2 E ad tk n b c (k ()) κ d T m i o ob op sb
  | .ask k=>run2 E ad tk n b c (k E.st) κ d T m i o ob op sb
  | .load a _ k=>nO (o % 256) (elO (E.kt.get a) (fun x=>run2 E ad tk n b c (k x) κ d T m i (o / 256) ob op sb) (.bad 3)) fun j =>
   elO (T.get j) (fun x=>run2 E ad tk n b c (k x) κ d T m i (o / 256) ((a,ad j)::ob) op sb) (.bad 4)
  | .update a _ f k=>nO (o % 256) (.bad 5) fun j=>elO (T.get j) (fun x=>bO (f x).isFreed (.bad 6) (run2 E ad tk n b c (k ()) κ d (T.set j f) m i (o / 256) ((a,ad j)::ob) op sb)) (.bad 7)
  | .alloc x k=>bO x.isFreed (.bad 8) (elO ((T.ins m x).get m) (fun _=>run2 E ad tk n b c (k (ad m)) κ d (T.ins m x) (m + 1) i o ob op sb) (.bad 9))
  | .fresh k=>run2 E ad tk n b c (k (tk i)) κ d T m (i + 1) o ob op sb
  | .handled own k=>bO own (.bad 10) (run2 E ad tk n b c (k none) κ d T m i o ob op sb)
  | .call c' hd _ _ k=>elO hd (fun _=>.bad 11) (bO (callerF c') (.bad 12) (bO b (.bad 18) (bO (Nat.ble d 12)
   (nO (o % 256) (run2 E ad tk n false c' (denF c') (.cons c k κ) (d + 1) T m i (o / 256) ob op sb) fun q=>nO q (.stop c' c k κ d T m i ob op sb) fun q=>nO q
    (elO (callR c') (fun f=>elO (defAt E.kt f.1) (fun p=>run2 E ad tk n true c' (callF f.1 f.2 p) (.cons c k κ) (d + 1) T m i (o / 256) ob op sb) (.bad 19)) (.bad 20)) fun q=>nO q
    (elO (E.ct (o / 256 % 256) c' T ad m tk i) (fun x=>elO (insL T m x.objs) (fun T'=>run2 E ad tk n false c (k (.ok (.ret x.res))) κ d T' (m + x.objs.length) (i + 4) (o / 256 / 256) ob (x.φ::op) sb) (.bad 24)) (.bad 23)) fun q =>
    elO (E.sp q c' T ad) (fun p=>run2 E ad tk n false c' p.1 (.cons c k κ) (d + 1) T m i (o / 256) ob (p.2::op) sb) (.bad 15)) (.bad 13))))
  | .stack k=>run2 E ad tk n b c (k []) κ d T m i (o / 256) ob op ((.stack k,PySem.W.R.bindR (roomT (o % 256)) fun _=>k [])::sb)
  | _=>.bad 16
noncomputable def Agree (m:Nat) (ad ad':Nat->Nat):Prop:=∀ j,j<m->@Eq Nat (ad' j) (ad j)
theorem Agree.refl (m:Nat) (ad:Nat->Nat):Agree m ad ad:=fun _ _=>rfl
theorem Agree.less {m m':Nat} {ad ad':Nat->Nat} (h:Agree m ad ad') (e:m'≤m):Agree m' ad ad':=fun j hj=>h j (by exact om23 e hj)
theorem Agree.trans {m:Nat} {a b c:Nat->Nat} (h:Agree m a b) (g:Agree m b c):Agree m a c:=fun j hj=>(g j hj).trans (h j hj)
noncomputable def LowKeeps (N:Nat) (h h':Heap):Prop:=∀ (b:Nat) o,b<N->h.get? b=some o->h'.get? b=some o
noncomputable def KeepsN (N:Nat) (h h':Heap):Prop:=∀ (b:Nat) o,N≤b->h.get? b=some o->h'.get? b=some o
structure Rep2 (kt:KT) (N:Nat) (I:Heap->Prop) (ad:Nat->Nat) (h₀:Heap) (m₀:Nat) (h:Heap) (T:BT) (m:Nat):Prop where
 base:kt.Holds h 1 0
 top:∀ (a:Nat) x,kt.get a=some x->a<N
 le:m₀≤m
 low:∀ j:Nat,j<m->@LT.lt Nat _ (ad j) h.objs.size
 inj:∀ i j:Nat,i<m->j<m->@Eq Nat (ad i) (ad j)->i=j
 own:∀ (j:Nat) x,T.get j=some x->j<m∧h.get? (ad j)=some x
 off:∀ j:Nat,j<m->N≤ad j
 keep:∀ (a:Nat) x,N≤a->h₀.get? a=some x->(∀ j:Nat,j<m->@Ne Nat (ad j) a)->h.get? a=some x
 size:h₀.objs.size≤h.objs.size
 new:∀ j:Nat,m₀≤j->j<m->h₀.objs.size≤ad j
 inv:I h
 stb:∀ h h',LowKeeps N h h'->I h->I h'
section
variable {kt:KT} {N:Nat} {I:Heap->Prop} {ad ad':Nat->Nat} {h₀ h:Heap} {T:BT} {m₀ m:Nat}
theorem Rep2.agree (D:Rep2 kt N I ad h₀ m₀ h T m) (e:Agree m ad ad'):Rep2 kt N I ad' h₀ m₀ h T m where
 base:=D.base
 top:=D.top
 le:=D.le
 low:=fun j hj=>by rw [e j hj]; exact D.low j hj
 inj:=fun i j hi hj q=>by rw [e i hi,e j hj] at q; exact D.inj i j hi hj q
 own:=fun j x hx=>⟨(D.own j x hx).1,by rw [e j (D.own j x hx).1]; exact (D.own j x hx).2⟩
 off:=fun j hj=>by rw [e j hj]; exact D.off j hj
 keep:=fun a x ha hx hn=>D.keep a x ha hx fun j hj=>by rw [← e j hj]; exact hn j hj
 size:=D.size
 new:=fun j h1 h2=>by rw [e j h2]; exact D.new j h1 h2
 inv:=D.inv
 stb:=D.stb
theorem Rep2.look (D:Rep2 kt N I ad h₀ m₀ h T m) {a:Addr} {x:Obj} (e:kt.get a=some x):h.get? a=some x:=by
 have z:=KT.Holds.get D.base e
 rw [Nat.one_mul,Nat.add_zero] at z
 exact z
theorem Rep2.update (D:Rep2 kt N I ad h₀ m₀ h T m) {j:Nat} {x:Obj} {f:Obj->Obj} (e:T.get j=some x) (hf:(f x).isFreed=false):h.get? (ad j)=some x∧Rep2 kt N I ad h₀ m₀ (h.update (ad j) f) (T.set j f) m:=by
 have z:=D.own _ _ e
 have hs:Heap.SameBut (ad j) h (h.update (ad j) f):=Heap.SameBut.update ..
 refine ⟨z.2,?_,D.top,D.le,fun i hi=>?_,D.inj,fun i y e'=>?_,D.off,fun a y ha e' hn=>?_,?_,D.new,?_,D.stb⟩
 · have hoff:∀ (a:Nat) y,kt.get a=some y->@Ne Nat (ad j) a:=fun a y ey q=>by
    have h1:=D.off j z.1
    have h2:=D.top a y ey
    rw [q] at h1
    exact absurd h2 (Nat.not_lt.mpr h1)
   have hb:=D.base
   clear D e
   have key:∀ (t:KT) (s b:Nat),(∀ i o,t.get i=some o->ad j ≠ s * i + b)->t.Holds h s b->t.Holds (h.update (ad j) f) s b:=by
    intro t
    induction t with
    | nil=>intro _ _ _ _; trivial
    | node v l r ihl ihr =>
     intro s b hne H
     refine ⟨fun o eo=>?_,ihl _ _ (fun i o ei=>?_) H.2.1,ihr _ _ (fun i o ei=>?_) H.2.2⟩
     · have hb0:ad j ≠ b:=by
        have:=hne 0 o (by rw [KT.get_node]; simpa using eo)
        simpa using this
       exact (hs.2 b (Ne.symm hb0)).trans (H.1 o eo)
     · have:=hne (2 * i + 1) o (by
        rw [KT.get_node,if_neg (by exact om24),if_pos (by exact om25)]
        have:(2 * i + 1) / 2=i:=by exact om26
        rw [this]; exact ei)
       intro e; apply this; rw [e,Nat.mul_add,Nat.mul_one,← Nat.mul_assoc,Nat.mul_comm s 2]; exact om27
     · have:=hne (2 * i + 2) o (by
        rw [KT.get_node,if_neg (by exact om28),if_neg (by exact om29)]
        have:(2 * i + 2) / 2 - 1=i:=by exact om30
        rw [this]; exact ei)
       intro e; apply this; rw [e,Nat.mul_add,← Nat.mul_assoc,Nat.mul_comm s 2]; exact om31
   exact key kt 1 0 (fun i o ei=>by rw [Nat.one_mul,Nat.add_zero]; exact hoff i o ei) hb
 · rw [hs.1]; exact D.low i hi
 · rw [BT.get_set] at e'
   by_cases q:i=j
   · subst q
     rw [if_pos rfl,e] at e'
     cases e'
     refine ⟨z.1,?_⟩
     first | exact Heap.get?_update_self f z.2 hf | exact Heap.get?_update_self _ z.2 hf
   · rw [if_neg q] at e'
     have y':=D.own i y e'
     exact ⟨y'.1,(hs.2 _ fun e=>q (D.inj i j y'.1 z.1 e)).trans y'.2⟩
 · exact (hs.2 a (Ne.symm (hn j z.1))).trans (D.keep a y ha e' hn)
 · rw [hs.1]; exact D.size
 · refine D.stb _ _ (fun b o hb e=>(hs.2 b fun q=>?_).trans e) D.inv
   have:=D.off j z.1
   rw [← q] at this
   exact om32 hb this
theorem Rep2.push (D:Rep2 kt N I ad h₀ m₀ h T m) {h':Heap} {x:Obj} (kp:Keeps h h') (hx:h'.get? (ad m)=some x) (hs:h.objs.size≤h'.objs.size) (hN:N≤ad m) (h0:h₀.objs.size≤ad m) (hne:∀ j,j<m->@Ne Nat (ad j) (ad m)) (hg:((T.ins m x).get m).isSome=true):Rep2 kt N I ad h₀ m₀ h' (T.ins m x) (m + 1):=by
 refine ⟨KT.Holds.keeps kp D.base,D.top,Nat.le_succ_of_le D.le,fun j hj=>?_,fun i j hi hj e=>?_,fun j y e=>?_,fun j hj=>?_,fun a y ha e hn=>?_,Nat.le_trans D.size hs,fun j h1 h2=>?_,D.stb _ _ (fun b o _ e=>kp b o e) D.inv,D.stb⟩
 · by_cases q:j=m
   · subst q; exact Heap.lt_size hx
   · exact Nat.lt_of_lt_of_le (D.low j (by exact om33 hj q)) hs
 · by_cases qi:i=m
   · by_cases qj:j=m
     · exact om34 qi qj
     · subst qi; exact absurd e.symm (hne j (by exact om33 hj qj))
   · by_cases qj:j=m
     · subst qj; exact absurd e (hne i (by exact om33 hi qi))
     · exact D.inj i j (by exact om33 hi qi) (by exact om33 hj qj) e
 · rw [BT.get_ins x T m hg] at e
   by_cases q:j=m
   · subst q
     rw [if_pos rfl] at e
     cases e
     exact ⟨Nat.lt_succ_self _,hx⟩
   · rw [if_neg q] at e
     have z:=D.own j y e
     exact ⟨by exact om35 z,kp _ _ z.2⟩
 · by_cases q:j=m
   · subst q; exact hN
   · exact D.off j (by exact om33 hj q)
 · exact kp _ _ (D.keep a y ha e fun j hj=>hn j (by exact om36 hj))
 · by_cases q:j=m
   · subst q; exact h0
   · exact D.new j h1 (by exact om33 h2 q)
theorem Rep2.move (D:Rep2 kt N I ad h₀ m₀ h T m) {I':Heap->Prop} {h':Heap} (kp:KeepsN N h h') (kb:kt.Holds h' 1 0) (ki:I' h') (si:∀ h h',LowKeeps N h h'->I' h->I' h') (hs:h.objs.size≤h'.objs.size):Rep2 kt N I' ad h₀ m₀ h' T m :=
 ⟨kb,D.top,D.le,fun j hj=>Nat.lt_of_lt_of_le (D.low j hj) hs,D.inj,fun j x hx=>⟨(D.own j x hx).1,kp _ _ (D.off j (D.own j x hx).1) (D.own j x hx).2⟩,D.off,fun a x ha hx hn=>kp _ _ ha (D.keep a x ha hx hn),Nat.le_trans D.size hs,D.new,ki,si⟩
theorem Rep2.insL (l:List Obj):∀ {T T':BT} {m:Nat},Rep2 kt N I ad h₀ m₀ h T m->insL T m l=some T' →
 (∀ j o,l[j]? = some o->h.get? (ad (m + j))=some o∧N≤ad (m + j)∧h₀.objs.size≤ad (m + j))->(∀ j,j<l.length->∀ i,i<m + j->@Ne Nat (ad i) (ad (m + j)))->Rep2 kt N I ad h₀ m₀ h T' (m + l.length):=by
 induction l with
 | nil =>
  intro T T' m D e _ _
  cases e
  exact D
 | cons x l ih =>
  intro T T' m D e hl hi
  unfold Mine.insL at e
  split at e
  · cases e
  · split at e
    · rename_i y hy
      have h0:=hl 0 x rfl
      rw [Nat.add_zero] at h0
      have D1:Rep2 kt N I ad h₀ m₀ h (T.ins m x) (m + 1):=D.push (fun _ _ e=>e) h0.1 (Nat.le_refl _) h0.2.1 h0.2.2 (fun j hj=>hi 0 (by simp) j hj) (by rw [hy]; rfl)
      have z:=ih D1 e (fun j o hj=>by
       have:=hl (j + 1) o hj
       rw [show m + 1 + j=m + (j + 1) by exact om37]; exact this) (fun j hj i h=>by
       rw [show m + 1 + j=m + (j + 1) by exact om37] at h ⊢
       exact hi (j + 1) (by simpa using hj) i h)
      rw [show m + (x::l).length=m + 1 + l.length by simp only [List.length_cons]; exact om38]
      exact z
    · cases e
end
theorem cUnits_le {c:Code} (h:c.isCaller=false):c.cUnits≤16:=by
 have h1:=weight_le h
 have h2:c.frames≤c.weight:=by unfold Code.weight; exact om39
 unfold Code.cUnits
 split <;> omega
theorem arK_units (A:Around):∀ κ:Kn,κ.okc->(arK A κ).units≤A.units + 16 * κ.len
 | .nil,_=>Nat.le_refl _
 | .cons c _ κ,h=>by
  have h1:=arK_units A κ h.2
  have h2:=cUnits_le h.1
  show (arK A κ).units + c.cUnits≤A.units + 16 * (κ.len + 1)
  exact om40 h1 h2
noncomputable def SpOk2 (prog:Program) (w:World) (E:En2) (D N:Nat) (I:Array GenState->Heap->Prop) (h₀:Heap) (m₀:Nat):Prop :=
 ∀ q c T ad p,E.sp q c T ad=some p->(∀ ad':Nat->Nat,(∀ j x,T.get j=some x->@Eq Nat (ad' j) (ad j))->E.sp q c T ad'=some p) ∧
  (p.2->∀ (A:Around) (R:Result->Shared->Prop) (s:Shared) (m:Nat),A.handled=none->A.depth≤D->A.units + 20<cLine->Rep2 E.kt N (I s.gens) ad h₀ m₀ s.heap T m->wpOwn (model prog w) A c p.1 (postC prog w A R) (postE R) s->codeAny (model prog w) A c R s)
noncomputable def CtCong (E:En2) (m₀:Nat):Prop:=∀ q c T (ad:Nat->Nat) m (tk:Nat->Nat) i x,m₀≤m->(∀ j y,T.get j=some y->j<m)->E.ct q c T ad m tk i=some x->∀ ad' tk':Nat->Nat,Agree (m + x.objs.length) ad ad'->Agree (i + 4) tk tk'->E.ct q c T ad' m tk' i=some x
noncomputable def CtOk (prog:Program) (w:World) (E:En2) (D U N:Nat) (I:Array GenState->Heap->Prop) (h₀:Heap) (m₀:Nat):Prop :=
 ∀ q c T ad m tk i (A:Around) (R:Result->Shared->Prop) (s:Shared),A.handled=none->A.depth≤D->A.units≤U->Rep2 E.kt N (I s.gens) ad h₀ m₀ s.heap T m →
  (∀ ad' tk':Nat->Nat,Agree m ad ad'->Agree i tk tk'->∃ x,E.ct q c T ad' m tk' i=some x∧x.φ) →
  (∀ h' G' t' (ad' tk':Nat->Nat) x,Agree m ad ad'->Agree i tk tk'->E.ct q c T ad' m tk' i=some x->KeepsN N s.heap h'->E.kt.Holds h' 1 0->I G' h'->s.heap.objs.size≤h'.objs.size →
   (∀ j o,x.objs[j]? = some o->h'.get? (ad' (m + j))=some o)->(∀ j,j<x.objs.length->s.heap.objs.size≤ad' (m + j))->(∀ i j,i<x.objs.length->j<x.objs.length->@Eq Nat (ad' (m + i)) (ad' (m + j))->i=j)->R (.ok (.ret x.res)) ⟨h',G',s.drawn,t',s.os⟩)->codeAny (model prog w) A c R s
section
variable {prog:Program} {w:World} {A:Around} {R:Result->Shared->Prop} {E:En2} {N:Nat} {I:Array GenState->Heap->Prop} {h₀:Heap} {m₀:Nat} {dr:Drawn} {os:OsState}
variable (prog w A R E N I h₀ m₀ dr os) in
noncomputable def Good2 (ad:Nat->Nat):Rs2->Prop
 | .bad _=>False
 | .done r T m _ _ _ _=>∀ h G t,Rep2 E.kt N (I G) ad h₀ m₀ h T m->R r ⟨h,G,dr,t,os⟩
 | .stop c' c k κ d T m _ _ _ _=>κ.okc->c.isCaller=false->κ.len≤d->κ.len≤42->∀ h G t,Rep2 E.kt N (I G) ad h₀ m₀ h T m->codeAny (model prog w) (arK A (.cons c k κ)) c' (RK prog w A R (.cons c k κ)) ⟨h,G,dr,t,os⟩
 | .again c' κ d T m _ _ _ _=>κ.okc->κ.len≤d->κ.len≤42->∀ h G t,Rep2 E.kt N (I G) ad h₀ m₀ h T m->codeAny (model prog w) (arK A κ) c' (RK prog w A R κ) ⟨h,G,dr,t,os⟩
noncomputable def Mo2 (ob:List (Nat×Nat)) (op:List Prop) (sb:List (Sem Fin×Sem Fin)) (r:Rs2):Prop:=r.isBad∨((∀ x∈ob,x∈r.ob)∧(∀ x∈op,x∈r.op)∧∀ x∈sb,x∈r.sb)
section
variable {ob:List (Nat×Nat)} {op:List Prop} {sb:List (Sem Fin×Sem Fin)} {r:Rs2}
theorem m2Bad {n:Nat}:Mo2 ob op sb (.bad n):=.inl trivial
theorem m2Ob {y:Nat×Nat} (h:Mo2 (y::ob) op sb r):Mo2 ob op sb r:=h.imp_right fun h=>⟨fun x hx=>h.1 x (.tail _ hx),h.2⟩
theorem m2Op {y:Prop} (h:Mo2 ob (y::op) sb r):Mo2 ob op sb r:=h.imp_right fun h=>⟨h.1,fun x hx=>h.2.1 x (.tail _ hx),h.2.2⟩
theorem m2Sb {y:Sem Fin×Sem Fin} (h:Mo2 ob op (y::sb) r):Mo2 ob op sb r:=h.imp_right fun h=>⟨h.1,h.2.1,fun x hx=>h.2.2 x (.tail _ hx)⟩
theorem m2End (h:r.ob=ob) (h':r.op=op) (h'':r.sb=sb):Mo2 ob op sb r:=.inr ⟨fun _ x=>h ▸ x,fun _ x=>h' ▸ x,fun _ x=>h'' ▸ x⟩
theorem m2O {α:Type u} {a:Option α} {f:α->Rs2} {d:Rs2} (h:∀ x,Mo2 ob op sb (f x)) (h':Mo2 ob op sb d):Mo2 ob op sb (elO a f d):=by
 cases a with
 | some x=>exact h x
 | none=>exact h'
theorem m2B {b:Bool} {x y:Rs2} (h:Mo2 ob op sb x) (h':Mo2 ob op sb y):Mo2 ob op sb (bO b x y):=by
 cases b with
 | true=>exact h
 | false=>exact h'
theorem m2N {n:Nat} {x:Rs2} {f:Nat->Rs2} (h:Mo2 ob op sb x) (h':∀ k,Mo2 ob op sb (f k)):Mo2 ob op sb (nO n x f):=by
 cases n with
 | zero=>exact h
 | succ k=>exact h' k
end
theorem run2_mono (E:En2) (ad tk:Nat->Nat):∀ n b c t κ d T m i o ob op sb,Mo2 ob op sb (run2 E ad tk n b c t κ d T m i o ob op sb):=by
 intro n
 induction n with
 | zero=>intros; exact m2Bad
 | succ n ih =>
  intro b c t κ d T m i o ob op sb
  cases t with
  | pure f=>cases f with
   | done f=>exact m2B m2Bad (match κ with | .nil=>m2End rfl rfl rfl | .cons _ _ _=>ih ..)
   | again c'=>exact m2B (m2B m2Bad (m2N (ih ..) fun _=>m2N (m2End rfl rfl rfl) fun _=>m2N (m2O (fun _=>m2O (fun _=>ih ..) m2Bad) m2Bad) fun _=>m2O (fun _=>m2Op (ih ..)) m2Bad)) m2Bad
  | raise e=>exact match κ with | .nil=>m2End rfl rfl rfl | .cons _ _ _=>ih ..
  | rule _ k=>exact ih ..
  | «at» _ k=>exact ih ..
  | point _ k=>exact ih ..
  | ask k=>exact ih ..
  | load a _ k=>exact m2N (m2O (fun _=>ih ..) m2Bad) fun _=>m2O (fun _=>m2Ob (ih ..)) m2Bad
  | update a _ f k=>exact m2N m2Bad fun _=>m2O (fun _=>m2B m2Bad (m2Ob (ih ..))) m2Bad
  | alloc x k=>exact m2B m2Bad (m2O (fun _=>ih ..) m2Bad)
  | fresh k=>exact ih ..
  | handled own k=>exact m2B m2Bad (ih ..)
  | stack k=>exact m2Sb (ih ..)
  | call c' hd _ _ k=>exact m2O (fun _=>m2Bad) (m2B m2Bad (m2B m2Bad (m2B (m2N (ih ..) fun _=>m2N (m2End rfl rfl rfl) fun _=>m2N (m2O (fun _=>m2O (fun _=>ih ..) m2Bad) m2Bad) fun _=>m2N (m2O (fun _=>m2O (fun _=>m2Op (ih ..)) m2Bad) m2Bad) fun _=>m2O (fun _=>m2Op (ih ..)) m2Bad) m2Bad)))
  | _=>exact m2Bad
noncomputable def Fin2 (ad:Nat->Nat) (rs:Rs2):Prop:=(∀ p∈rs.ob,p.1=p.2)∧((∀ p∈rs.op,p)∧∀ p∈rs.sb,p.1=p.2)∧Good2 prog w A R E N I h₀ m₀ dr os ad rs
theorem good2_bad {ad:Nat->Nat} {r:Rs2} (h:Good2 prog w A R E N I h₀ m₀ dr os ad r):¬ r.isBad:=by
 cases r <;> first | exact h.elim | exact id
variable (prog w A R E N I h₀ m₀ dr os) in
structure PK2 (P:(Nat->Nat)->Rs2->Prop):Prop where
 good:∀ ad r,P ad r->Good2 prog w A R E N I h₀ m₀ dr os ad r
 ob:∀ {ad tk n b c t κ d T m i o ob op sb} {x:Nat×Nat},P ad (run2 E ad tk n b c t κ d T m i o (x::ob) op sb)->x.1=x.2
 op:∀ {ad tk n b c t κ d T m i o ob op sb} {x:Prop},P ad (run2 E ad tk n b c t κ d T m i o ob (x::op) sb)->x
 sb:∀ {ad tk n b c t κ d T m i o ob op sb} {x:Sem Fin×Sem Fin},P ad (run2 E ad tk n b c t κ d T m i o ob op (x::sb))->x.1=x.2
theorem fin2_pk:PK2 prog w A R E N I h₀ m₀ dr os (Fin2 (prog:=prog) (w:=w) (A:=A) (R:=R) (E:=E) (N:=N) (I:=I) (h₀:=h₀) (m₀:=m₀) (dr:=dr) (os:=os)) where
 good:=fun _ _ h=>h.2.2
 ob:=fun h=>(run2_mono ..).elim (fun z=>(good2_bad h.2.2 z).elim) fun z=>h.1 _ (z.1 _ (List.mem_cons_self ..))
 op:=fun h=>(run2_mono ..).elim (fun z=>(good2_bad h.2.2 z).elim) fun z=>h.2.1.1 _ (z.2.1 _ (List.mem_cons_self ..))
 sb:=fun h=>(run2_mono ..).elim (fun z=>(good2_bad h.2.2 z).elim) fun z=>h.2.1.2 _ (z.2.2 _ (List.mem_cons_self ..))
structure Vw (m i:Nat) (ad tk:Nat->Nat) where
 a:Nat->Nat
 t:Nat->Nat
 ha:Agree m ad a
 ht:Agree i tk t
noncomputable def Vw.self {m i:Nat} {ad tk:Nat->Nat}:Vw m i ad tk:=⟨ad,tk,Agree.refl _ _,Agree.refl _ _⟩
section
variable {ι:Type u} {β:Type v} (P:ι->β->Prop) (v:ι)
theorem qO {α:Type u} {a:Option α} {f:ι->α->β} {d:ι->β} (hd:P v (d v)->False) (H:∀ x,P x (elO a (f x) (d x))):∃ y,a=some y∧∀ x,P x (f x y):=by
 cases a with
 | none=>exact (hd (H v)).elim
 | some y=>exact ⟨y,rfl,H⟩
theorem qT {b:Bool} {x y:ι->β} (hd:P v (y v)->False) (H:∀ v,P v (bO b (x v) (y v))):b=true∧∀ v,P v (x v):=by
 cases b with
 | false=>exact (hd (H v)).elim
 | true=>exact ⟨rfl,H⟩
theorem qF {b:Bool} {x y:ι->β} (hd:P v (x v)->False) (H:∀ v,P v (bO b (x v) (y v))):b=false∧∀ v,P v (y v):=by
 cases b with
 | true=>exact (hd (H v)).elim
 | false=>exact ⟨rfl,H⟩
theorem qN {n:Nat} {x:ι->β} {f:ι->Nat->β} (H:∀ v,P v (nO n (x v) (f v))):(n=0∧∀ v,P v (x v))∨∃ k,n=k + 1∧∀ v,P v (f v k):=by
 cases n with
 | zero=>exact .inl ⟨rfl,H⟩
 | succ k=>exact .inr ⟨k,rfl,H⟩
end
theorem roomT_ok {A:Around} {c:Code} {s:Shared} {q:Nat} {t:Sem Fin} {Q:Fin->Shared->Prop} {E:Value->Shared->Prop} (hq:q=1∨q=2) (hu:A.units + c.cUnits<cLine) (h:wpOwn (model prog w) A c t Q E s):wpOwn (model prog w) A c (PySem.W.R.bindR (roomT q) fun _=>t) Q E s:=by
 intro Γ p hc hΓ
 have z:=h Γ p hc hΓ
 rw [← PySem.W.R.bindR_eq]
 show Sem.wp _ Γ (roomT q >>= fun _=>t) _ _ p s
 rw [Sem.wp_bind']
 have hu2:Γ.units<cLine:=by
  have h1:Γ.units=Γ.code.cUnits + unitsOf Γ.below:=rfl
  have h2:=hΓ.2.2.2.2
  rw [hc] at h1
  exact om41 hu h1 h2
 rcases hq with rfl | rfl
 · show Sem.wp _ Γ (PySem.W.Fast.tw13383273872528276517 _ _) _ _ p s
   rw [← PySem.W.Fast.te13383273872528276517]
   exact Sem.wp_cRoomFor _ _ hu2 z
 · show Sem.wp _ Γ (PySem.W.Fast.tw13383273872528276517 _ _) _ _ p s
   rw [← PySem.W.Fast.te13383273872528276517]
   exact Sem.wp_cRoomFor _ _ hu2 z
theorem room_of {q:Nat} {k:List (Code×Pos)->Sem Fin} (e:Sem.stack k=PySem.W.R.bindR (roomT q) fun _=>k []):q=1∨q=2:=by
 rcases q with _ | _ | _ | q
 · cases e
 · exact .inl rfl
 · exact .inr rfl
 · cases e
theorem sound2_P {P:(Nat->Nat)->Rs2->Prop} (K:PK2 prog w A R E N I h₀ m₀ dr os P) (hst:E.st=⟨prog,w.params⟩) (hA:A.handled=none) (hd:A.depth + 70<recursionLimit) (hu:A.units + 300<cLine) (hsp:SpOk2 prog w E (A.depth + 70) N I h₀ m₀) (hct:CtOk prog w E (A.depth + 70) (A.units + 210) N I h₀ m₀) (hcg:CtCong E m₀) (hlim:∀ h,E.kt.Holds h 1 0->h.NoLimit) (hstb:∀ G h h',LowKeeps N h h'->I G h->I G h') :
 ∀ n b c t κ d T m i o ob op sb (ad tk:Nat->Nat) h G tt,κ.okc->c.isCaller=false->κ.len≤d->κ.len≤13->Rep2 E.kt N (I G) ad h₀ m₀ h T m->N≤h.objs.size →
  (∀ v:Vw m i ad tk,P v.a (run2 E v.a v.t n b c t κ d T m i o ob op sb))->Means prog w A R b c t κ ⟨h,G,dr,tt,os⟩:=by
 have bad:∀ {ad:Nat->Nat} {n:Nat},P ad (.bad n)->False:=K.good _ _
 have plain:∀ {c':Code} {κ:Kn} {s:Shared},Means prog w A R false c' (denF c') κ s->codeAny (model prog w) (arK A κ) c' (RK prog w A R κ) s:=fun x=>by
  rw [← denF_eq] at x
  exact y_code _ _ _ _ _ _ x
 intro n
 induction n with
 | zero=>intro b c t κ d T m i o ob op sb ad tk h G tt hk hc hl hl2 D hN H; exact (bad (H .self)).elim
 | succ n ih =>
  intro b c t κ d T m i o ob op sb ad tk h G tt hk hc hl hl2 D hN H
  have hh:(arK A κ).handled=none:=by rw [arK_handled]; exact hA
  have hdep:(arK A κ).depth≤A.depth + 70:=Nat.le_trans (arK_depth A κ hk) (by exact om42 hl2)
  have hun:(arK A κ).units≤A.units + 208:=Nat.le_trans (arK_units A κ hk) (Nat.add_le_add_left (Nat.mul_le_mul_left 16 hl2) _)
  have spz:∀ {q c' o' ob' op' sb'} {p:Sem Fin×Prop} {κ':Kn} {d' n':Nat},E.sp q c' T ad=some p->(∀ v:Vw m i ad tk,P v.a (elO (E.sp q c' T v.a) (fun p=>run2 E v.a v.t n false c' p.1 κ' d' T m i o' ob' (p.2::op') sb') (.bad n'))) →
   ∀ v:Vw m i ad tk,P v.a (run2 E v.a v.t n false c' p.1 κ' d' T m i o' ob' (p.2::op') sb'):=fun hs H v=>by
   have:=H v
   rw [(hsp _ _ T ad _ hs).1 v.a fun j x hx=>v.ha j (D.own j x hx).1] at this
   exact this
  cases t with
  | pure f =>
   cases f with
   | done f =>
    obtain ⟨h0,H1⟩:=qF (fun v:Vw m i ad tk=>P v.a) .self bad H
    clear H
    subst h0
    have H:=H1
    clear H1
    cases κ with
    | nil=>exact y_pure _ _ _ _ _ _ _ _ _ (show RK prog w A R .nil (.ok f) _ from K.good _ _ (H .self) h G tt D)
    | cons c₁ k κ=>exact y_pure _ _ _ _ _ _ _ _ _ (show RK prog w A R (.cons c₁ k κ) (.ok f) _ from ih _ _ _ _ _ _ _ _ _ _ _ _ ad tk h G tt hk.2 hk.1 (Nat.le_sub_one_of_lt hl) (Nat.le_of_succ_le hl2) D hN H)
   | again c' =>
    obtain ⟨q,H⟩:=qT (fun v:Vw m i ad tk=>P v.a) .self bad H
    obtain ⟨hcl',H⟩:=qF (fun v:Vw m i ad tk=>P v.a) .self bad H
    have hq:c'.quiet=true:=by rw [quietF_eq]; exact q
    have hcl:c'.isCaller=false:=by rw [callerF_eq]; exact hcl'
    have key:codeAny (model prog w) (arK A κ) c' (RK prog w A R κ) ⟨h,G,dr,tt,os⟩:=by
     rcases qN (fun v:Vw m i ad tk=>P v.a) H with ⟨_,H⟩ | ⟨q,_,H⟩
     · exact plain (ih _ _ _ _ _ _ _ _ _ _ _ _ ad tk h G tt hk hcl hl hl2 D hN H)
     · rcases qN (fun v:Vw m i ad tk=>P v.a) H with ⟨_,H⟩ | ⟨q,_,H⟩
       · exact K.good _ _ (H .self) hk hl (Nat.le_trans hl2 (by decide)) h G tt D
       · rcases qN (fun v:Vw m i ad tk=>P v.a) H with ⟨_,H⟩ | ⟨q,_,H⟩
         · obtain ⟨⟨a,args⟩,hr,H⟩:=qO (fun v:Vw m i ad tk=>P v.a) .self bad H
           obtain ⟨⟨fd,body⟩,hp,H⟩:=qO (fun v:Vw m i ad tk=>P v.a) .self bad H
           obtain rfl:=callR_some hr
           obtain ⟨x,cc,oc,vs,q,tk',e1,e2,e3,e4,e5,e6,e7,e8,e9,e10⟩:=defAt_spec hp
           exact call_own (by exact om43 hd hdep) (D.look e1) e2 e4 e5 e3 ⟨cc,oc,vs,tk',e6,D.look e7,e8,by rw [e9,e10]⟩ (ih _ _ _ _ _ _ _ _ _ _ _ _ ad tk h G tt hk hcl hl hl2 D hN H)
         · obtain ⟨p,hs,H0⟩:=pO (P ad) bad (H .self)
           exact (hsp q c' T ad p hs).2 (K.op H0) _ _ _ m hh hdep (by exact om44 hu hun) D (ih _ _ _ _ _ _ _ _ _ _ _ _ ad tk h G tt hk hcl hl hl2 D hN (spz hs H))
    cases b with
    | false=>exact y_pure _ _ _ _ _ _ _ _ _ (show c'.quiet=true∧_ from ⟨hq,key⟩)
    | true=>exact y_pure _ _ _ _ _ _ _ _ _ ⟨c',rfl,hlim h D.base,key⟩
  | raise e =>
   cases κ with
   | nil=>exact y_raise _ _ _ _ _ _ _ _ _ (show RK prog w A R .nil (.error e) _ from K.good _ _ (H .self) h G tt D)
   | cons c₁ k κ=>exact y_raise _ _ _ _ _ _ _ _ _ (show RK prog w A R (.cons c₁ k κ) (.error e) _ from ih _ _ _ _ _ _ _ _ _ _ _ _ ad tk h G tt hk.2 hk.1 (Nat.le_sub_one_of_lt hl) (Nat.le_of_succ_le hl2) D hN H)
  | rule tag k=>exact y_skim _ _ _ _ _ _ _ _ _ 1 (ih _ _ _ _ _ _ _ _ _ _ _ _ ad tk h G tt hk hc hl hl2 D hN H)
  | «at» q k=>exact y_skim _ _ _ _ _ _ _ _ _ 1 (ih _ _ _ _ _ _ _ _ _ _ _ _ ad tk h G tt hk hc hl hl2 D hN H)
  | point l k=>exact y_skim _ _ _ _ _ _ _ _ _ 1 (ih _ _ _ _ _ _ _ _ _ _ _ _ ad tk h G tt hk hc hl hl2 D hN H)
  | ask k =>
   have z:=ih _ _ _ _ _ _ _ _ _ _ _ _ ad tk h G tt hk hc hl hl2 D hN H
   rw [hst] at z
   exact y_skim _ _ _ _ _ _ _ _ _ 1 z
  | load a q k =>
   rcases qN (fun v:Vw m i ad tk=>P v.a) H with ⟨_,H⟩ | ⟨j,_,H⟩
   · obtain ⟨x,hx,H⟩:=qO (fun v:Vw m i ad tk=>P v.a) .self bad H
     exact y_load _ _ _ _ _ _ _ _ _ _ _ _ _ _ _ _ (D.look hx) (ih _ _ _ _ _ _ _ _ _ _ _ _ ad tk h G tt hk hc hl hl2 D hN H)
   · obtain ⟨x,hx,H⟩:=qO (fun v:Vw m i ad tk=>P v.a) .self bad H
     have ea:a=ad j:=K.ob (H .self)
     have hj:=D.own j x hx
     exact y_load _ _ _ _ _ _ _ _ _ _ _ _ _ _ _ _ (by rw [ea]; exact hj.2) (ih _ _ _ _ _ _ _ _ _ ((a,ad j)::ob) _ _ ad tk h G tt hk hc hl hl2 D hN (fun v=>by
      have:=H v
      rw [v.ha j hj.1] at this
      exact this))
  | update a q f k =>
   rcases qN (fun v:Vw m i ad tk=>P v.a) H with ⟨_,H⟩ | ⟨j,_,H⟩
   · exact (bad (H .self)).elim
   · obtain ⟨x,hx,H⟩:=qO (fun v:Vw m i ad tk=>P v.a) .self bad H
     obtain ⟨hf,H⟩:=qF (fun v:Vw m i ad tk=>P v.a) .self bad H
     have ea:a=ad j:=K.ob (H .self)
     obtain ⟨hx',D'⟩:=D.update hx hf
     rw [← ea] at hx' D'
     have hj:=(D.own j x hx).1
     exact wpOwn_bind (m:=updatePart a q f) (f:=k) (wpOwn_of_wpAny (wpAny_updatePart hx' (ih _ _ _ _ _ _ _ _ _ ((a,ad j)::ob) _ _ ad tk (h.update a f) G tt hk hc hl hl2 D' (by rw [(Heap.SameBut.update ..).1]; exact hN) (fun v=>by
      have:=H v
      rw [v.ha j hj] at this
      exact this))))
  | alloc x k =>
   obtain ⟨hf,H⟩:=qF (fun v:Vw m i ad tk=>P v.a) .self bad H
   obtain ⟨x',hx,H⟩:=qO (fun v:Vw m i ad tk=>P v.a) .self bad H
   have agr:Agree m ad (fun j=>if j=m then h.objs.size else ad j):=fun j hj=>if_neg (Nat.ne_of_lt hj)
   have D':Rep2 E.kt N (I G) (fun j=>if j=m then h.objs.size else ad j) h₀ m₀ (h.push x) (T.ins m x) (m + 1) :=
    (D.agree agr).push (fun b o e=>Heap.get?_push_of_some _ e) (by rw [if_pos rfl]; exact Heap.get?_push_size _ hf) (by rw [Heap.size_push]; exact Nat.le_succ _) (by rw [if_pos rfl]; exact hN) (by rw [if_pos rfl]; exact D.size) (fun j hj q=>by
     have q':ad j=h.objs.size:=(agr j hj).symm.trans (q.trans (if_pos rfl))
     have:=D.low j hj
     rw [q'] at this
     exact Nat.lt_irrefl _ this) (by rw [hx]; rfl)
   exact wpOwn_bind (m:=PySem.alloc x) (f:=k) (wpOwn_of_wpAny (wpAny_alloc (ih b c (k h.objs.size) κ d (T.ins m x) (m + 1) i o ob op sb _ tk (h.push x) G tt hk hc hl hl2 D' (by rw [Heap.size_push]; exact Nat.le_succ_of_le hN) (fun v=>by
    have:=H ⟨v.a,v.t,fun j hj=>(v.ha j (Nat.lt_succ_of_lt hj)).trans (agr j hj),v.ht⟩
    rw [show v.a m=h.objs.size from (v.ha m (Nat.lt_succ_self _)).trans (if_pos rfl)] at this
    exact this))))
  | fresh k =>
   have agr:Agree i tk (fun j=>if j=i then tt else tk j):=fun j hj=>if_neg (Nat.ne_of_lt hj)
   exact y_fresh _ _ _ _ _ _ _ _ _ _ _ _ _ (ih b c (k tt) κ d T m (i + 1) o ob op sb ad (fun j=>if j=i then tt else tk j) h G (tt + 1) hk hc hl hl2 D hN (fun v=>by
    have:P v.a (run2 E v.a v.t n b c (k (v.t i)) κ d T m (i + 1) o ob op sb):=H ⟨v.a,v.t,v.ha,fun j hj=>(v.ht j (Nat.lt_succ_of_lt hj)).trans (agr j hj)⟩
    rw [show v.t i=tt from (v.ht i (Nat.lt_succ_self _)).trans (if_pos rfl)] at this
    exact this))
  | handled own k =>
   obtain ⟨h0,H1⟩:=qF (fun v:Vw m i ad tk=>P v.a) .self bad H
   clear H
   subst h0
   have H:=H1
   have z:=ih _ _ _ _ _ _ _ _ _ _ _ _ ad tk h G tt hk hc hl hl2 D hN H
   rw [← hh] at z
   exact y_handled _ _ _ _ _ _ _ _ _ z
  | stack k =>
   have z:=ih b c (k []) κ d T m i (o / 256) ob op ((.stack k,PySem.W.R.bindR (roomT (o % 256)) fun _=>k [])::sb) ad tk h G tt hk hc hl hl2 D hN H
   have e:Sem.stack k=PySem.W.R.bindR (roomT (o % 256)) fun _=>k []:=K.sb (H .self)
   show wpOwn _ _ _ (Sem.stack k) _ _ _
   have hq:=room_of e
   rw [e]
   have hcu:=cUnits_le hc
   exact roomT_ok hq (by exact om45 hu hun hcu) z
  | call c' hd' gd lv k =>
   cases hd' with
   | some v=>exact (bad (H .self)).elim
   | none =>
    replace H:∀ v:Vw m i ad tk,P v.a (bO _ _ _):=H
    obtain ⟨hcl,H1⟩:=qF (fun v:Vw m i ad tk=>P v.a) .self bad H
    clear H
    obtain ⟨h0,H2⟩:=qF (fun v:Vw m i ad tk=>P v.a) .self bad H1
    clear H1
    subst h0
    obtain ⟨hb,H⟩:=qT (fun v:Vw m i ad tk=>P v.a) .self bad H2
    clear H2
    have hcl':c'.isCaller=false:=by rw [callerF_eq]; exact hcl
    have hk':(Kn.cons c k κ).okc:=⟨hc,hk⟩
    have hl':(Kn.cons c k κ).len≤d + 1:=Nat.succ_le_succ hl
    have hl2':(Kn.cons c k κ).len≤13:=Nat.succ_le_succ (Nat.le_trans hl (Nat.le_of_ble_eq_true hb))
    have hdep':(arK A (.cons c k κ)).depth≤A.depth + 70:=Nat.le_trans (arK_depth A (.cons c k κ) hk') (Nat.le_trans (Nat.add_le_add_left (Nat.mul_le_mul_left 5 hl2') _) (Nat.add_le_add_left (by decide) _))
    have hun':(arK A (.cons c k κ)).units≤A.units + 208:=Nat.le_trans (arK_units A (.cons c k κ) hk') (Nat.add_le_add_left (Nat.mul_le_mul_left 16 hl2') _)
    have hh':(arK A (.cons c k κ)).handled=none:=by rw [arK_handled]; exact hA
    refine y_call _ _ _ _ _ _ _ _ _ _ _ _ _ (fun e=>nso e) ?_
    rw [mark_none]
    show codeAny (model prog w) (arK A (.cons c k κ)) c' (RK prog w A R (.cons c k κ)) _
    rcases qN (fun v:Vw m i ad tk=>P v.a) H with ⟨_,H⟩ | ⟨q,_,H⟩
    · exact plain (ih _ _ _ _ _ _ _ _ _ _ _ _ ad tk h G tt hk' hcl' hl' hl2' D hN H)
    · rcases qN (fun v:Vw m i ad tk=>P v.a) H with ⟨_,H⟩ | ⟨q,_,H⟩
      · exact K.good _ _ (H .self) hk hc hl (Nat.le_trans hl2 (by decide)) h G tt D
      · rcases qN (fun v:Vw m i ad tk=>P v.a) H with ⟨_,H⟩ | ⟨q,_,H⟩
        · obtain ⟨⟨a,args⟩,hr,H⟩:=qO (fun v:Vw m i ad tk=>P v.a) .self bad H
          obtain ⟨⟨fd,body⟩,hp,H⟩:=qO (fun v:Vw m i ad tk=>P v.a) .self bad H
          obtain rfl:=callR_some hr
          obtain ⟨x,cc,oc,vs,q,tk',e1,e2,e3,e4,e5,e6,e7,e8,e9,e10⟩:=defAt_spec hp
          exact call_own (by exact om43 hd hdep') (D.look e1) e2 e4 e5 e3 ⟨cc,oc,vs,tk',e6,D.look e7,e8,by rw [e9,e10]⟩ (ih _ _ _ _ _ _ _ _ _ _ _ _ ad tk h G tt hk' hcl' hl' hl2' D hN H)
        · rcases qN (fun v:Vw m i ad tk=>P v.a) H with ⟨_,H⟩ | ⟨q,_,H⟩
          · have Hct:∀ ad' tk':Nat->Nat,Agree m ad ad'->Agree i tk tk'->∃ x T',E.ct (o / 256 % 256) c' T ad' m tk' i=some x∧insL T m x.objs=some T' ∧
             P ad' (run2 E ad' tk' n false c (k (.ok (.ret x.res))) κ d T' (m + x.objs.length) (i + 4) (o / 256 / 256) ob (x.φ::op) sb):=fun ad' tk' ha ht=>by
             obtain ⟨x,hx,z⟩:=pO (P ad') bad (H ⟨ad',tk',ha,ht⟩)
             obtain ⟨T',hT,z⟩:=pO (P ad') bad z
             exact ⟨x,T',hx,hT,z⟩
            clear H
            refine hct _ c' T ad m tk i _ _ _ hh' hdep' (by exact om46 hun') D (fun ad' tk' ha ht=>let ⟨x,T',e,_,f⟩:=Hct ad' tk' ha ht; ⟨x,e,K.op f⟩) ?_
            intro h' G' t' ad' tk' x ha ht ex kp kb ki hs hobj hnew hinj
            obtain ⟨x',T',e',eT,_⟩:=Hct ad' tk' ha ht
            obtain rfl:x=x':=Option.some.inj (ex.symm.trans e')
            have hlen:∀ j o',x.objs[j]? = some o'->j<x.objs.length:=fun j o' e=>(List.getElem?_eq_some_iff.mp e).1
            have D':Rep2 E.kt N (I G') ad' h₀ m₀ h' T' (m + x.objs.length):=((D.agree ha).move (I':=I G') kp kb ki (hstb G') hs).insL x.objs eT (fun j o' e=>⟨hobj j o' e,Nat.le_trans hN (hnew j (hlen j o' e)),Nat.le_trans D.size (hnew j (hlen j o' e))⟩) fun j hj i' hi' q=>by
             by_cases hi:i'<m
             · have h1:=(D.agree ha).low i' hi
               rw [q] at h1
               exact absurd h1 (Nat.not_lt.mpr (hnew j hj))
             · have:=hinj (i' - m) j (by exact om47 hj hi') hj (by rw [show m + (i' - m)=i' by exact om48 hi]; exact q)
               exact om49 hi' hi this
            refine (ih false c (k (.ok (.ret x.res))) κ d T' (m + x.objs.length) (i + 4) (o / 256 / 256) ob (x.φ::op) sb ad' tk' h' G' t' hk hc hl hl2 D' (Nat.le_trans hN hs) (fun v=>?_):Means prog w A R false c (k (.ok (.ret x.res))) κ ⟨h',G',dr,t',os⟩)
            obtain ⟨x2,T2,e2,eT2,f2⟩:=Hct v.a v.t ((ha.trans (v.ha.less (Nat.le_add_right _ _)))) (ht.trans (v.ht.less (Nat.le_add_right _ _)))
            obtain rfl:x=x2:=Option.some.inj ((hcg _ c' T ad' m tk' i x D.le (fun j y hy=>(D.own j y hy).1) ex v.a v.t v.ha v.ht).symm.trans e2)
            obtain rfl:T'=T2:=Option.some.inj (eT.symm.trans eT2)
            exact f2
          · obtain ⟨p,hs,H0⟩:=pO (P ad) bad (H .self)
            exact (hsp q c' T ad p hs).2 (K.op H0) _ _ _ m hh' hdep' (by exact om44 hu hun') D (ih _ _ _ _ _ _ _ _ _ _ _ _ ad tk h G tt hk' hcl' hl' hl2' D hN (spz hs H))
  | _=>exact (bad (H .self)).elim
theorem sound2 (hst:E.st=⟨prog,w.params⟩) (hA:A.handled=none) (hd:A.depth + 70<recursionLimit) (hu:A.units + 300<cLine) (hsp:SpOk2 prog w E (A.depth + 70) N I h₀ m₀) (hct:CtOk prog w E (A.depth + 70) (A.units + 210) N I h₀ m₀) (hcg:CtCong E m₀) (hlim:∀ h,E.kt.Holds h 1 0->h.NoLimit) (hstb:∀ G h h',LowKeeps N h h'->I G h->I G h') (n b c t κ d T m i o ob op sb) (ad tk:Nat->Nat) (h G tt) (hk:κ.okc) (hc:c.isCaller=false) (hl:κ.len≤d) (hl2:κ.len≤13) (D:Rep2 E.kt N (I G) ad h₀ m₀ h T m) (hN:N≤h.objs.size)
 (H:∀ ad' tk':Nat->Nat,Agree m ad ad'->Agree i tk tk'->Fin2 (prog:=prog) (w:=w) (A:=A) (R:=R) (E:=E) (N:=N) (I:=I) (h₀:=h₀) (m₀:=m₀) (dr:=dr) (os:=os) ad' (run2 E ad' tk' n b c t κ d T m i o ob op sb)) :
 Means prog w A R b c t κ ⟨h,G,dr,tt,os⟩ :=
 sound2_P fin2_pk hst hA hd hu hsp hct hcg hlim hstb n b c t κ d T m i o ob op sb ad tk h G tt hk hc hl hl2 D hN fun v=>H v.a v.t v.ha v.ht
end
end
section
structure L2 where
 l:Lt
 jl:Nat->Nat
 kl:Nat->Nat
 ml:Nat->Nat
 xs:Nat->List Value
noncomputable abbrev Sp2T:=Nat->Code->BT->(Nat->Nat)->Option (Sem Fin×Prop)
noncomputable def Sp2Ok (prog:Program) (w:World) (kt:KT) (D N:Nat) (I:Array GenState->Heap->Prop) (h₀:Heap) (m₀:Nat) (f:Sp2T):Prop :=
 ∀ q c T ad p,f q c T ad=some p->(∀ ad':Nat->Nat,(∀ j x,T.get j=some x->@Eq Nat (ad' j) (ad j))->f q c T ad'=some p) ∧
  (p.2->∀ (A:Around) (R:Result->Shared->Prop) (s:Shared) (m:Nat),A.handled=none->A.depth≤D->A.units + 20<cLine->Rep2 kt N (I s.gens) ad h₀ m₀ s.heap T m->wpOwn (model prog w) A c p.1 (postC prog w A R) (postE R) s->codeAny (model prog w) A c R s)
noncomputable def orSp (f g:Sp2T):Sp2T:=fun q c T ad=>match f q c T ad with
 | some p=>some p
 | none=>g q c T ad
section
variable {w:World} {kt:KT} {D N:Nat} {I:Array GenState->Heap->Prop} {h₀:Heap} {m₀:Nat}
noncomputable def AgT (T:BT) (ad ad':Nat->Nat):Prop:=∀ j x,T.get j=some x->@Eq Nat (ad' j) (ad j)
theorem orSp_ok {prog:Program} {f g:Sp2T} (hf:Sp2Ok prog w kt D N I h₀ m₀ f) (hn:∀ q c T ad ad',AgT T ad ad'->f q c T ad=none->f q c T ad'=none) (hg:Sp2Ok prog w kt D N I h₀ m₀ g):Sp2Ok prog w kt D N I h₀ m₀ (orSp f g):=by
 intro q c T ad p e
 unfold orSp at e
 split at e
 · rename_i p' e'
   cases e
   obtain ⟨c1,c2⟩:=hf q c T ad _ e'
   refine ⟨fun ad' h=>?_,c2⟩
   unfold orSp
   rw [c1 ad' h]
 · rename_i e'
   obtain ⟨c1,c2⟩:=hg q c T ad p e
   refine ⟨fun ad' h=>?_,c2⟩
   unfold orSp
   rw [hn q c T ad ad' h e']
   exact c1 ad' h
noncomputable def spOld (l:Lt) (kt:KT) (w:World):Sp2T:=fun q c _ _=>spF l kt w q c
theorem spOld_ok {l:Lt}:Sp2Ok thePw w kt D N I h₀ m₀ (spOld l kt w):=fun q c T ad p e =>
 ⟨fun _ _=>e,fun hφ A R s _ hA hd hu hR x=>spF_ok w l D kt q c p.1 p.2 e hφ A R s hA hd hR.base x⟩
noncomputable def tailOf (T:BT) (ad:Nat->Nat) (j:Nat):List Value:=match T.get j with
 | some _=>[.ref (ad j)]
 | none=>[]
theorem tailOf_ag {T:BT} {ad ad':Nat->Nat} (h:AgT T ad ad') (j:Nat):tailOf T ad' j=tailOf T ad j:=by
 unfold tailOf
 split
 · rename_i x hx; rw [h _ _ hx]
 · rfl
noncomputable def spPop (L:L2):Sp2T:=fun q c T ad=>match xbL (xl1 xvr) c with
 | some (id,a)=>match isId id "list.pop" with
  | true=>match T.get (L.jl q) with
   | some o=>match T.get (L.kl q) with
    | some _=>match o.data with
     | .seq ys n=>some (updT a (toSeq (L.xs q++tailOf T ad (L.ml q)) (n + 1)) (.ref (ad (L.kl q))),@Eq Nat a (ad (L.jl q))∧ys.toList=(L.xs q++tailOf T ad (L.ml q))++[.ref (ad (L.kl q))]∧(L.xs q++tailOf T ad (L.ml q)).length + 1≤sizeLine)
     | _=>none
    | none=>none
   | none=>none
  | false=>none
 | none=>none
noncomputable def spNext (L:L2):Sp2T:=fun q c T ad=>match xbL (xl1 xvr) c with
 | some (id,a)=>match isId id "str_ascii_iterator.__next__" with
  | true=>match T.get (L.jl q) with
   | some o=>match itOf o.data with
    | some (x,t,i)=>some (.update a none (fun o=>⟨o.cls,o.dict,.fields ⟨[.str x t,.int (i + 1) 0]⟩,o.slots⟩) fun _=>.fresh fun u=>.pure (.done (.ret (.str (L.l.sl q) u))),
     @Eq Nat a (ad (L.jl q))∧∃ k c:Nat,i=(k:Int)∧x.cps[k]? = some c∧L.l.sl q=⟨#[c]⟩)
    | none=>none
   | none=>none
  | false=>none
 | none=>none
noncomputable def spApp (L:L2):Sp2T:=fun q c T ad=>match xbL (xl2 xvr some) c with
 | some (id,a,v)=>match isId id "list.append" with
  | true=>match T.get (L.jl q) with
   | some o=>match o.data with
    | .seq ys n=>some (updT a (toSeq (ys.toList++[v]) (n + 1)) .none,@Eq Nat a (ad (L.jl q))∧ys.toList.length + 1≤sizeLine)
    | _=>none
   | none=>none
  | false=>none
 | none=>none
noncomputable def spSet (L:L2):Sp2T:=fun q c T ad=>match xbL (xl3 xvr xvr xvr) c with
 | some (id,a,c,b)=>match isId id "list.__setitem__" with
  | true=>match T.get (L.jl q) with
   | some o=>match T.get (L.kl q) with
    | some oc=>match T.get (L.ml q) with
     | some ob=>match o.data with
      | .seq ys n=>match ob.data with
       | .seq zs _=>some (updT a (toSeq zs.toList (if zs.toList.length=ys.toList.length then n else n + 1)) .none,@Eq Nat a (ad (L.jl q))∧@Eq Nat c (ad (L.kl q))∧@Eq Nat b (ad (L.ml q))∧¬ L.jl q=L.ml q∧oc=⟨.type "slice",none,.fields #[.none,.none,.none],#[]⟩∧ob.cls = .type "list"∧ys.toList.length + zs.toList.length≤sizeLine)
       | _=>none
      | _=>none
     | none=>none
    | none=>none
   | none=>none
  | false=>none
 | none=>none
noncomputable def spStr:Sp2T:=fun _ c _ _=>match xbL (xl2 xvt xvr) c with
 | some (id,t,p)=>match isId id "str.__new__" with
  | true=>some (strnG.1 (strofG.1 fun _ _=>pure ()) ⟨[.type t,.ref p],[]⟩,True)
  | false=>none
 | none=>none
noncomputable def spIt:Sp2T:=fun _ c _ _=>match xbL (xl1 xvs) c with
 | some (id,(x,t))=>match isId id "str.__iter__" with
  | true=>some (.alloc ⟨.type "str_ascii_iterator",none,.fields ⟨[.str x t,.int 0 0]⟩,#[]⟩ fun a=>.pure (.done (.ret (.ref a))),x.cps.all (·<128)=true)
  | false=>none
 | none=>none
noncomputable def vEq (a b:Value):Option Bool:=match a with
 | .int i _=>(xvi b).map fun y=>i == y.1
 | .str x _=>(xvs b).map fun y=>x == y.1
 | _=>none
noncomputable def sName (id:String):Nat:=match isId id "tuple.__ne__" with
 | true=>0
 | false=>match isId id "list.__ne__" with
  | true=>1
  | false=>match isId id "list.__eq__" with
   | true=>2
   | false=>3
noncomputable def seqRes (k:Nat) (ys zs:List Value):Bool:=match k with
 | 2=>(List.range ys.length).all fun j=>(vEq (ys.getD j .none) (zs.getD j .none)).getD false
 | _=>!((List.range ys.length).all fun j=>(vEq (ys.getD j .none) (zs.getD j .none)).getD false)
noncomputable def seqTy:Nat->String
 | 0=>"tuple"
 | _=>"list"
noncomputable def spSeq (L:L2):Sp2T:=fun q c T ad=>match xbL (xl2 xvr xvr) c with
 | some (id,a,b)=>match Nat.ble (sName id) 2 with
  | true=>match T.get (L.jl q) with
   | some oa=>match T.get (L.kl q) with
    | some ob=>match oa.data with
     | .seq ys _=>match ob.data with
      | .seq zs _=>some (tV (.bool (Nat.beq (L.ml q) 1)),@Eq Nat a (ad (L.jl q))∧@Eq Nat b (ad (L.kl q))∧oa.cls = .type (seqTy (sName id))∧ob.cls = .type (seqTy (sName id))∧ys.toList.length=zs.toList.length∧(∀ j,j<ys.toList.length->(vEq (ys.toList.getD j .none) (zs.toList.getD j .none)).isSome=true)∧seqRes (sName id) ys.toList zs.toList=Nat.beq (L.ml q) 1)
      | _=>none
     | _=>none
    | none=>none
   | none=>none
  | false=>none
 | none=>none
noncomputable def spIadd (L:L2):Sp2T:=fun q c T ad=>match xbL (xl2 xvr xvr) c with
 | some (id,a,b)=>match isId id "list.__iadd__" with
  | true=>match T.get (L.jl q) with
   | some oa=>match T.get (L.kl q) with
    | some ob=>match oa.data with
     | .seq ys n=>match ob.data with
      | .seq zs m=>some (updT a (toSeq (ys.toList++zs.toList) (if (ys.toList++zs.toList).length=ys.toList.length then n else n + 1)) (.ref a),@Eq Nat a (ad (L.jl q))∧@Eq Nat b (ad (L.kl q))∧oa=⟨.type "list",none,.seq ys n,#[]⟩∧ob=⟨.type "tuple",none,.seq zs m,#[]⟩∧ys.toList.length + zs.toList.length≤sizeLine)
      | _=>none
     | _=>none
    | none=>none
   | none=>none
  | false=>none
 | none=>none
noncomputable def spBody:Sp2T:=fun q c _ _=>match c with
 | .func body env=>match Nat.beq q 8 with
  | true=>some (funcG.1 (bodyT body env) env,True)
  | false=>none
 | _=>none
noncomputable def spLn:Sp2T:=fun _ c _ _=>match c with
 | .builtin id args=>match isId id "list.__new__" with
  | true=>some (lnwG.1 (pure [(.builtin "list.__new__" args,default)]) args,True)
  | false=>none
 | _=>none
noncomputable def iCmp:Nat->Int->Int->Bool
 | 0,a,b=>a == b
 | _,a,b=>decide (a > b)
noncomputable def iName (id:String):Nat:=match isId id "int.__eq__" with
 | true=>0
 | false=>match isId id "int.__gt__" with
  | true=>1
  | false=>2
noncomputable def yesNo (q:Nat) (f:Bool->Prop):Option (Sem Fin×Prop):=match Nat.beq q 1 with
 | true=>some (tV (.bool true),f true)
 | false=>match Nat.beq q 2 with
  | true=>some (tV (.bool false),f false)
  | false=>none
noncomputable def spCmpI:Sp2T:=fun q c _ _=>match xbL (xl2 xvi xvi) c with
 | some (id,x,y)=>match Nat.ble (iName id) 1 with
  | true=>yesNo q fun r=>iCmp (iName id) x.1 y.1=r
  | false=>none
 | none=>none
noncomputable def spCmp:Sp2T:=fun q c T ad=>match xbL (xl1 xvs) c with
 | some (id,x)=>match isId id "str.isspace" with
  | true=>yesNo q fun r=>Txt.isspace x.1=r
  | false=>none
 | none=>spCmpI q c T ad
theorem yesNo_some {q:Nat} {f:Bool->Prop} {p:Sem Fin×Prop} (h:yesNo q f=some p):∃ r,p=(tV (.bool r),f r):=by
 unfold yesNo at h
 split at h
 · exact ⟨true,(Option.some.inj h).symm⟩
 · split at h
   · exact ⟨false,(Option.some.inj h).symm⟩
   · cases h
theorem spPop_ok {L:L2} {prog:Program}:Sp2Ok prog w kt D N I h₀ m₀ (spPop L):=by
 intro q c T ad p e
 unfold spPop at e
 split at e
 · obtain rfl:=b1_some (by assumption)
   split at e
   · rename_i hid
     split at e
     · rename_i o ho
       split at e
       · rename_i o2 ho2
         split at e
         · rename_i ys n hd
           cases e
           obtain rfl:=isId_eq hid
           refine ⟨fun ad' h=>?_,fun ⟨ea,eys,hz⟩ A R s m hA _ _ D x=>?_⟩
           · unfold spPop
             simp only [b1_eq,hid,ho,ho2,hd,h _ _ ho,h _ _ ho2,tailOf_ag h]
           · have hs:=(D.own _ _ ho).2
             rw [← ea] at hs
             obtain ⟨ys⟩:=ys
             exact popSp hs (hd.trans (by rw [show ys=_ from eys])) hz x
         · cases e
       · cases e
     · cases e
   · cases e
 · cases e
theorem spNext_ok {L:L2} {prog:Program}:Sp2Ok prog w kt D N I h₀ m₀ (spNext L):=by
 intro q c T ad p e
 unfold spNext at e
 split at e
 · obtain rfl:=b1_some (by assumption)
   split at e
   · rename_i hid
     split at e
     · rename_i o ho
       split at e
       · rename_i x t i hd
         cases e
         obtain rfl:=isId_eq hid
         refine ⟨fun ad' h=>?_,fun ⟨ea,k,c,ei,hx,hy⟩ A R s m hA _ _ D z=>?_⟩
         · unfold spNext
           simp only [b1_eq,hid,ho,hd,h _ _ ho]
         · have hs:=(D.own _ _ ho).2
           rw [← ea] at hs
           subst ei
           rw [hy] at z
           exact strNextSp hs (itOf_some hd) hx z
       · cases e
     · cases e
   · cases e
 · cases e
theorem spApp_ok {L:L2} {prog:Program}:Sp2Ok prog w kt D N I h₀ m₀ (spApp L):=by
 intro q c T ad p e
 unfold spApp at e
 split at e
 · obtain rfl:=bA_some (by assumption)
   split at e
   · rename_i hid
     split at e
     · rename_i o ho
       split at e
       · rename_i ys n hd
         cases e
         obtain rfl:=isId_eq hid
         refine ⟨fun ad' h=>?_,fun ⟨ea,hz⟩ A R s m hA _ _ D x=>?_⟩
         · unfold spApp
           simp only [bA_eq,hid,ho,hd,h _ _ ho]
         · have hs:=(D.own _ _ ho).2
           rw [← ea] at hs
           obtain ⟨ys⟩:=ys
           exact appendSp hs hd hz x
       · cases e
     · cases e
   · cases e
 · cases e
theorem spSet_ok {L:L2} {prog:Program}:Sp2Ok prog w kt D N I h₀ m₀ (spSet L):=by
 intro q c T ad p e
 unfold spSet at e
 split at e
 · obtain rfl:=b3_some (by assumption)
   split at e
   · rename_i hid
     split at e
     · rename_i o ho
       split at e
       · rename_i oc hoc
         split at e
         · rename_i ob hob
           split at e
           · rename_i ys n hd
             split at e
             · rename_i zs n2 hdz
               cases e
               obtain rfl:=isId_eq hid
               refine ⟨fun ad' h=>?_,fun ⟨ea,ec,eb,hne,hsl,hcl,hz⟩ A R s m hA _ _ D x=>?_⟩
               · unfold spSet
                 simp only [b3_eq,hid,ho,hoc,hob,hd,hdz,h _ _ ho,h _ _ hoc,h _ _ hob]
               · have hs:=(D.own _ _ ho).2
                 have hs2:=(D.own _ _ hoc).2
                 have hs3:=(D.own _ _ hob).2
                 have nab:¬ ad (L.jl q)=ad (L.ml q):=fun q'=>hne (D.inj _ _ (D.own _ _ ho).1 (D.own _ _ hob).1 q')
                 rw [← ea,← eb] at nab
                 rw [← ea] at hs
                 rw [← ec] at hs2
                 rw [← eb] at hs3
                 subst hsl
                 obtain ⟨ys⟩:=ys
                 obtain ⟨zs⟩:=zs
                 exact setAllSp nab hs hd ⟨_,hs2,rfl,rfl⟩ hs3 hcl hdz hz x
             · cases e
           · cases e
         · cases e
       · cases e
     · cases e
   · cases e
 · cases e
theorem spStr_ok {prog:Program}:Sp2Ok prog w kt D N I h₀ m₀ spStr:=by
 intro q c T ad p e
 unfold spStr at e
 split at e
 · rename_i id ty pa hb
   obtain rfl:=bT_some hb
   split at e
   · rename_i hid
     cases e
     obtain rfl:=isId_eq hid
     refine ⟨fun ad' h=>by unfold spStr; simp only [bT_eq,hid],fun _ A R s m hA _ hu D x=>?_⟩
     refine codeOwn_builtin entry_strn fun Γ p hc hΓ=>?_
     exact strn_imp (by
      have:=cUnits_le (show (Code.builtin "str.__new__" ⟨[.type ty,.ref pa],[]⟩).isCaller=false from rfl)
      exact om180 hu this) _ Γ _ _ p s hc hΓ (x Γ p hc hΓ)
   · cases e
 · cases e
theorem spIt_ok {prog:Program}:Sp2Ok prog w kt D N I h₀ m₀ spIt:=by
 intro q c T ad p e
 refine ⟨fun _ _=>e,?_⟩
 unfold spIt at e
 split at e
 · rename_i id x t hb
   obtain rfl:=bs1_some hb
   split at e
   · rename_i hid
     cases e
     obtain rfl:=isId_eq hid
     intro hx A R s m _ _ _ _ z Γ p hc hΓ
     have y:R (.ok (.ret (.ref s.heap.objs.size))) { s with heap:=s.heap.push ⟨.type "str_ascii_iterator",none,.fields ⟨[.str x t,.int 0 0]⟩,#[]⟩ }:=z Γ p hc hΓ
     refine (codeAny_builtin F.entry_str_iter ?_:codeAny (model prog w) A (.builtin "str.__iter__" ⟨[.str x t],[]⟩) R s) Γ p hc hΓ
     rw [Around.under_plainId (by decide +kernel) _]
     show wpAny _ _ (newFields (if (true && x.cps.all (·<128))=true then "str_ascii_iterator" else "str_iterator") [.str x t,rawInt 0] >>= fun v=>ret v) _ _ s
     rw [hx]
     exact wpAny_bind (wpAny_newObj_type (wpAny_pure y))
   · cases e
 · cases e
theorem eqAt_v {A:Around} {s:Shared} {x y:Value} {b:Bool} (h:vEq x y=some b):SeqAt.EqAt A s x y b:=by
 cases x with
 | int i t =>
  obtain ⟨z,hz,rfl⟩:=Option.map_eq_some_iff.mp h
  obtain rfl:=vi_some hz
  exact (MeetsSeq.EqGives.int _ _ _ _).at A s
 | str i t =>
  obtain ⟨z,hz,rfl⟩:=Option.map_eq_some_iff.mp h
  obtain rfl:=vs_some hz
  exact (eqGives_str _ _ _ _).at A s
 | _=>exact nso h
theorem eqAt_l {A:Around} {s:Shared} {ys zs:List Value} (hl:ys.length=zs.length) (h:∀ j,j<ys.length->(vEq (ys.getD j .none) (zs.getD j .none)).isSome=true):∀ j (h1:j<(⟨ys⟩:Array Value).size) (h2:j<(⟨zs⟩:Array Value).size),SeqAt.EqAt A s (⟨ys⟩:Array Value)[j] (⟨zs⟩:Array Value)[j] ((vEq (ys.getD j .none) (zs.getD j .none)).getD false):=by
 intro j h1 h2
 have h1':j<ys.length:=h1
 have h2':j<zs.length:=h2
 have z:=h j h1'
 obtain ⟨b,hb⟩:=Option.isSome_iff_exists.mp z
 rw [hb]
 have e1:(⟨ys⟩:Array Value)[j]=ys.getD j .none:=by
  rw [List.getD_eq_getElem?_getD,List.getElem?_eq_getElem h1']
  rfl
 have e2:(⟨zs⟩:Array Value)[j]=zs.getD j .none:=by
  rw [List.getD_eq_getElem?_getD,List.getElem?_eq_getElem h2']
  rfl
 rw [e1,e2]
 exact eqAt_v hb
theorem cls_eta {o:Obj} {t:String} {ys:List Value} {n:Nat} (hc:o.cls = .type t) (hd:o.data = .seq ⟨ys⟩ n):o = { cls:=.type t,dict:=o.dict,data:=.seq ⟨ys⟩ n,slots:=o.slots }:=by
 obtain ⟨c,d,dt,sl⟩:=o
 obtain rfl:c=_:=hc
 obtain rfl:dt=_:=hd
 rfl
theorem seqSp {prog:Program} {A:Around} {R:Result->Shared->Prop} {s:Shared} {id:String} {a b:Addr} {oa ob:Obj} {ys zs:List Value} {n m:Nat} {r:Bool} (hn:Nat.ble (sName id) 2=true) (ha:s.heap.get? a=some oa) (hb:s.heap.get? b=some ob) (hda:oa.data = .seq ⟨ys⟩ n) (hdb:ob.data = .seq ⟨zs⟩ m)
 (hca:oa.cls = .type (seqTy (sName id))) (hcb:ob.cls = .type (seqTy (sName id))) (hl:ys.length=zs.length) (he:∀ j,j<ys.length->(vEq (ys.getD j .none) (zs.getD j .none)).isSome=true) (hr:seqRes (sName id) ys zs=r)
 (x:wpOwn (model prog w) A (.builtin id ⟨[.ref a,.ref b],[]⟩) (tV (.bool r)) (postC prog w A R) (postE R) s):codeAny (model prog w) A (.builtin id ⟨[.ref a,.ref b],[]⟩) R s:=by
 intro Γ p hc hΓ
 have y:R (.ok (.ret (.bool r))) s:=x Γ p hc hΓ
 have ea:=cls_eta hca hda
 have eb:=cls_eta hcb hdb
 rw [ea] at ha
 rw [eb] at hb
 unfold sName at hn hca hcb hr ha hb
 split at hn
 · rename_i h
   simp only [h] at hca hcb hr ha hb
   obtain rfl:=isId_eq h
   refine (codeAny_builtin F.entry_tuple_ne ?_:codeAny (model prog w) A _ R s) Γ p hc hΓ
   rw [Around.under_plainId (by decide +kernel) _]
   refine SeqAt.tuple_neAt a b ⟨ys⟩ ⟨zs⟩ n m _ _ _ _ _ prog w A R s ⟨ha,hb,eqAt_l hl he,?_⟩
   have e:(!((List.range (min (⟨ys⟩:Array Value).size (⟨zs⟩:Array Value).size)).all (fun j=>(vEq (ys.getD j .none) (zs.getD j .none)).getD false) && (⟨ys⟩:Array Value).size == (⟨zs⟩:Array Value).size))=r:=by
    rw [← hr]
    show (!((List.range (min ys.length zs.length)).all _ && ys.length == zs.length))=_
    rw [hl,Nat.min_self,beq_self_eq_true,Bool.and_true,← hl]
    rfl
   rw [e]
   exact y
 · rename_i h
   simp only [h] at hca hcb hr ha hb
   split at hn
   · rename_i h
     simp only [h] at hca hcb hr ha hb
     obtain rfl:=isId_eq h
     refine (codeAny_builtin F.entry_list_ne ?_:codeAny (model prog w) A _ R s) Γ p hc hΓ
     rw [Around.under_plainId (by decide +kernel) _]
     refine SeqAt.list_neAt a b ⟨ys⟩ ⟨zs⟩ n m _ _ _ _ hl _ prog w A R s ⟨ha,hb,eqAt_l hl he,?_⟩
     rw [show (!(List.range (⟨ys⟩:Array Value).size).all (fun j=>(vEq (ys.getD j .none) (zs.getD j .none)).getD false))=r from hr]
     exact y
   · rename_i h
     simp only [h] at hca hcb hr ha hb
     split at hn
     · rename_i h
       simp only [h] at hca hcb hr ha hb
       obtain rfl:=isId_eq h
       refine (codeAny_builtin F.entry_list_eq ?_:codeAny (model prog w) A _ R s) Γ p hc hΓ
       rw [Around.under_plainId (by decide +kernel) _]
       refine SeqAt.list_eqAt a b ⟨ys⟩ ⟨zs⟩ n m _ _ _ _ hl _ prog w A R s ⟨ha,hb,eqAt_l hl he,?_⟩
       rw [show ((List.range (⟨ys⟩:Array Value).size).all (fun j=>(vEq (ys.getD j .none) (zs.getD j .none)).getD false))=r from hr]
       exact y
     · exact absurd hn (by decide)
theorem spSeq_ok {L:L2} {prog:Program}:Sp2Ok prog w kt D N I h₀ m₀ (spSeq L):=by
 intro q c T ad p e
 unfold spSeq at e
 split at e
 · obtain rfl:=b2_some (by assumption)
   split at e
   · rename_i hid
     split at e
     · rename_i oa hoa
       split at e
       · rename_i ob hob
         split at e
         · rename_i ys n hd
           split at e
           · rename_i zs n2 hdz
             cases e
             refine ⟨fun ad' h=>?_,fun ⟨ea,eb,hc1,hc2,hl,hv,hr⟩ A R s m hA _ _ D x=>?_⟩
             · unfold spSeq
               simp only [b2_eq,hid,hoa,hob,hd,hdz,h _ _ hoa,h _ _ hob]
             · have hs:=(D.own _ _ hoa).2
               have hs2:=(D.own _ _ hob).2
               rw [← ea] at hs
               rw [← eb] at hs2
               obtain ⟨ys⟩:=ys
               obtain ⟨zs⟩:=zs
               exact seqSp hid hs hs2 hd hdz hc1 hc2 hl hv hr x
           · cases e
         · cases e
       · cases e
     · cases e
   · cases e
 · cases e
theorem spIadd_ok {L:L2} {prog:Program}:Sp2Ok prog w kt D N I h₀ m₀ (spIadd L):=by
 intro q c T ad p e
 unfold spIadd at e
 split at e
 · obtain rfl:=b2_some (by assumption)
   split at e
   · rename_i hid
     split at e
     · rename_i oa hoa
       split at e
       · rename_i ob hob
         split at e
         · rename_i ys n hd
           split at e
           · rename_i zs n2 hdz
             cases e
             obtain rfl:=isId_eq hid
             refine ⟨fun ad' h=>?_,fun ⟨ea,eb,hc1,hc2,hz⟩ A R s m hA _ _ D x=>?_⟩
             · unfold spIadd
               simp only [b2_eq,hid,hoa,hob,hd,hdz,h _ _ hoa,h _ _ hob]
             · have hs:=(D.own _ _ hoa).2
               have hs2:=(D.own _ _ hob).2
               rw [← ea,hc1] at hs
               rw [← eb,hc2] at hs2
               obtain ⟨ys⟩:=ys
               obtain ⟨zs⟩:=zs
               exact iaddSp hs hs2 hz x
           · cases e
         · cases e
       · cases e
     · cases e
   · cases e
 · cases e
theorem spBody_ok {prog:Program}:Sp2Ok prog w kt D N I h₀ m₀ spBody:=by
 intro q c T ad p e
 refine ⟨fun _ _=>e,?_⟩
 unfold spBody at e
 split at e
 · rename_i body env
   split at e
   · cases e
     intro _ A R s m _ _ hu _ x
     refine codeAny_of_own fun Γ p hc hΓ=>?_
     have hu2:A.units + (Code.func body env).cUnits<cLine:=by
      have:=cUnits_le (show (Code.func body env).isCaller=false from rfl)
      exact om180 hu this
     have i:=funcG.2.2 (model prog w) A (.func body env) _ _ env (body_imp hu2 body env) Γ _ _ p s hc hΓ (x Γ p hc hΓ)
     rw [← funcG.2.1] at i
     exact i
   · cases e
 · cases e
theorem spLn_ok {prog:Program}:Sp2Ok prog w kt D N I h₀ m₀ spLn:=by
 intro q c T ad p e
 refine ⟨fun _ _=>e,?_⟩
 unfold spLn at e
 split at e
 · split at e
   · rename_i hid
     cases e
     obtain rfl:=isId_eq hid
     exact fun _ A R s m _ _ _ _ x=>codeOwn_builtin entry_lnw (lnw_own x)
   · cases e
 · cases e
theorem iCmpSp {prog:Program} {A:Around} {R:Result->Shared->Prop} {s:Shared} {id:String} {a b:Int} {ta tb:Tok} {r:Bool} (hn:Nat.ble (iName id) 1=true) (hv:iCmp (iName id) a b=r)
 (x:wpOwn (model prog w) A (.builtin id ⟨[.int a ta,.int b tb],[]⟩) (tV (.bool r)) (postC prog w A R) (postE R) s):codeAny (model prog w) A (.builtin id ⟨[.int a ta,.int b tb],[]⟩) R s:=by
 unfold iName at hn hv
 split at hn
 · rename_i h
   simp only [h] at hv
   subst hv
   obtain rfl:=isId_eq h
   exact spV F.entry_int_eq (by decide +kernel) (AutoIntG7.int___eq___int_int_0 a ta b tb) x
 · rename_i h
   simp only [h] at hv
   split at hn
   · rename_i h
     simp only [h] at hv
     subst hv
     obtain rfl:=isId_eq h
     exact spV F.entry_int_gt (by decide +kernel) (AutoIntG4.int___gt___int_int_0 a ta b tb) x
   · exact absurd hn (by decide)
theorem spCmp_ok {prog:Program}:Sp2Ok prog w kt D N I h₀ m₀ spCmp:=by
 intro q c T ad p e
 refine ⟨fun _ _=>e,?_⟩
 unfold spCmp at e
 split at e
 · obtain rfl:=bs1_some (by assumption)
   split at e
   · rename_i hid
     obtain rfl:=isId_eq hid
     obtain ⟨r,rfl⟩:=yesNo_some e
     intro hv A R s m _ _ _ _ x
     refine spV F.entry_str_isspace (by decide +kernel) (gives_str_isspace _ _) ?_
     rw [show (_ && _)=r from hv]
     exact x
   · cases e
 · unfold spCmpI at e
   split at e
   · obtain rfl:=bi2_some (by assumption)
     split at e
     · rename_i hid
       obtain ⟨r,rfl⟩:=yesNo_some e
       exact fun hv A R s m _ _ _ _ x=>iCmpSp hid hv x
     · cases e
   · cases e
noncomputable def spP (L:L2) (kt:KT) (w:World):Sp2T:=orSp (spPop L) (orSp (spNext L) (orSp (spApp L) (orSp (spSet L) (orSp spStr (orSp (spSeq L) (orSp (spIadd L) (orSp spBody (orSp spIt (orSp spLn (orSp spCmp (spOld L.l kt w)))))))))))
theorem isSome_ag {T:BT} {ad ad':Nat->Nat} {f:Sp2T} (hf:∀ q c T ad ad',(f q c T ad).isSome=(f q c T ad').isSome) {q:Nat} {c:Code} (h:f q c T ad=none):f q c T ad'=none:=by
 have:=hf q c T ad ad'
 rw [h] at this
 cases z:f q c T ad' with
 | none=>rfl
 | some _=>rw [z] at this; cases this
theorem spP_ok {L:L2}:Sp2Ok thePw w kt D N I h₀ m₀ (spP L kt w):=by
 have h1:∀ q c T (ad ad':Nat->Nat),(spPop L q c T ad).isSome=(spPop L q c T ad').isSome:=fun q c T ad ad'=>by
  unfold spPop
  repeat' split
  all_goals rfl
 have h2:∀ q c T (ad ad':Nat->Nat),(spNext L q c T ad).isSome=(spNext L q c T ad').isSome:=fun q c T ad ad'=>by
  unfold spNext
  repeat' split
  all_goals rfl
 have h3:∀ q c T (ad ad':Nat->Nat),(spApp L q c T ad).isSome=(spApp L q c T ad').isSome:=fun q c T ad ad'=>by
  unfold spApp
  repeat' split
  all_goals rfl
 have h4:∀ q c T (ad ad':Nat->Nat),(spSet L q c T ad).isSome=(spSet L q c T ad').isSome:=fun q c T ad ad'=>by
  unfold spSet
  repeat' split
  all_goals rfl
 have h5:∀ q c T (ad ad':Nat->Nat),(spSeq L q c T ad).isSome=(spSeq L q c T ad').isSome:=fun q c T ad ad'=>by
  unfold spSeq
  repeat' split
  all_goals rfl
 have h6:∀ q c T (ad ad':Nat->Nat),(spIadd L q c T ad).isSome=(spIadd L q c T ad').isSome:=fun q c T ad ad'=>by
  unfold spIadd
  repeat' split
  all_goals rfl
 refine orSp_ok spPop_ok (fun q c T ad ad' _ h=>isSome_ag h1 h) (orSp_ok spNext_ok (fun q c T ad ad' _ h=>isSome_ag h2 h) (orSp_ok spApp_ok (fun q c T ad ad' _ h=>isSome_ag h3 h) (orSp_ok spSet_ok (fun q c T ad ad' _ h=>isSome_ag h4 h) (orSp_ok spStr_ok (fun q c T ad ad' _ h=>h) (orSp_ok spSeq_ok (fun q c T ad ad' _ h=>isSome_ag h5 h) (orSp_ok spIadd_ok (fun q c T ad ad' _ h=>isSome_ag h6 h) (orSp_ok spBody_ok (fun q c T ad ad' _ h=>h) (orSp_ok spIt_ok (fun q c T ad ad' _ h=>h) (orSp_ok spLn_ok (fun q c T ad ad' _ h=>h) (orSp_ok spCmp_ok (fun q c T ad ad' _ h=>h) spOld_ok))))))))))
end
end
section
noncomputable def qrunP {α:Type} (kt:KT) (st:Setting) (p:Nat) (ob:Obj):Nat->Nat->Sem α->List (Nat×Nat)->Option (α×List (Nat×Nat))
 | 0,_,_,_=>none
 | n + 1,o,t,acc=>match t with
  | .pure v=>some (v,acc)
  | .rule _ k=>qrunP kt st p ob n o (k ()) acc
  | .at _ k=>qrunP kt st p ob n o (k ()) acc
  | .point _ k=>qrunP kt st p ob n o (k ()) acc
  | .ask k=>qrunP kt st p ob n o (k st) acc
  | .load a _ k=>match o % 2 with
   | 0=>match kt.get a with
    | some x=>qrunP kt st p ob n (o / 2) (k x) acc
    | none=>none
   | _=>qrunP kt st p ob n (o / 2) (k ob) ((a,p)::acc)
  | _=>none
theorem qrunP_ok {α:Type} {prog:Program} {w:World} {A:Around} {E:Value->Shared->Prop} {kt:KT} {p:Nat} {ob:Obj}:∀ (n o:Nat) (t:Sem α) (acc:List (Nat×Nat)) (v:α) (acc':List (Nat×Nat)) (s:Shared) (Q:α->Shared->Prop),
 qrunP kt ⟨prog,w.params⟩ p ob n o t acc=some (v,acc')->(∀ x∈acc,x∈acc')∧((∀ x∈acc',x.1=x.2)->kt.Holds s.heap 1 0->s.heap.get? p=some ob->Q v s->wpAny (model prog w) A t Q E s):=by
 intro n
 induction n with
 | zero=>intro o t acc v acc' s Q e; cases e
 | succ n ih =>
  intro o t acc v acc' s Q e
  cases t with
  | pure v'=>cases (show some (v',acc)=some (v,acc') from e); exact ⟨fun _ h=>h,fun _ _ _ hQ=>wpAny_pure hQ⟩
  | rule a k =>
   have z:=ih _ _ _ v acc' s Q e
   exact ⟨z.1,fun h1 h2 h3 h4 Γ p hΓ=>z.2 h1 h2 h3 h4 Γ p hΓ⟩
  | «at» a k =>
   have z:=ih _ _ _ v acc' s Q e
   exact ⟨z.1,fun h1 h2 h3 h4 Γ p hΓ=>z.2 h1 h2 h3 h4 Γ _ hΓ⟩
  | point a k =>
   have z:=ih _ _ _ v acc' s Q e
   exact ⟨z.1,fun h1 h2 h3 h4 Γ p hΓ=>z.2 h1 h2 h3 h4 Γ p hΓ⟩
  | ask k =>
   have z:=ih _ _ _ v acc' s Q e
   exact ⟨z.1,fun h1 h2 h3 h4 Γ p hΓ=>z.2 h1 h2 h3 h4 Γ p hΓ⟩
  | load a q k =>
   replace e:(match o % 2 with
    | 0=>match kt.get a with
     | some x=>qrunP kt _ p ob n (o / 2) (k x) acc
     | none=>none
    | _=>qrunP kt _ p ob n (o / 2) (k ob) ((a,p)::acc))=some (v,acc'):=e
   split at e
   · split at e
     · rename_i x hx
       have z:=ih _ _ _ v acc' s Q e
       refine ⟨z.1,fun h1 h2 h3 h4=>?_⟩
       have:=KT.Holds.get h2 hx
       rw [Nat.one_mul,Nat.add_zero] at this
       exact wpAny_bind (m:=loadPart a q) (f:=k) (wpAny_loadPart this (z.2 h1 h2 h3 h4))
     · cases e
   · have z:=ih _ _ _ v acc' s Q e
     refine ⟨fun x hx=>z.1 x (List.mem_cons_of_mem _ hx),fun h1 h2 h3 h4=>?_⟩
     have ea:a=p:=h1 _ (z.1 _ (List.mem_cons_self ..))
     exact wpAny_bind (m:=loadPart a q) (f:=k) (wpAny_loadPart (by rw [ea]; exact h3) (z.2 h1 h2 h3 h4))
  | _=>exact nso e
noncomputable def lenSpQ (kt:KT) (w:World) (p pd:Nat) (vs:List Value) (n:Nat):Option (Option Value×List (Nat×Nat)):=qrunP kt ⟨PySem.Challenge.pw_tr0064_01,w.params⟩ p (oInst 206 pd vs n) 40 1 (PySem.W.Fast.tw4214721358667687652 (.ref p) ⟨⟨[95,95,108,101,110,95,95]⟩⟩) []
noncomputable def isFn (kt:KT) (f:Nat):Bool:=match kt.get f with
 | some o=>match o.cls with
  | .type t=>isId t "function"
  | _=>false
 | none=>false
structure LenK (kt:Params->KT):Prop where
 sp:∀ (w:World) p pd vs n,lenSpQ (kt w.params) w p pd vs n=some (some (.ref 173),[(p,p)])
 fn:∀ P,isFn (kt P) 173=true
theorem nLenS:(Str.ofString "__len__":Str)=⟨⟨[95,95,108,101,110,95,95]⟩⟩:=by decide +kernel
section
variable {kt:Params->KT} {w:World} {A:Around} {R:Result->Shared->Prop} {s:Shared} {N p pd:Nat} {Ts:Nat->Nat} {X Y:Nat->Str} {ta tb:Nat->Nat} {vs:List Value} {n v1 τ0 τ1:Nat}
theorem Cx.in1 {kt:KT} {D:Nat} {h:Heap} (C:Cx kt N D A h):Cx kt N D A.in1 h:=⟨C.hA,C.hd,C.hb,C.top,C.lim⟩
theorem len_tree (K:GenK kt) (L:LenK kt) (C:Cx (kt w.params) N 245 A s.heap) (reg:s.heap.get? p=some (oInst 206 pd vs n)) (dict:s.heap.get? pd=some (oDict [ky w.params sSize τ0 (.int 0 τ1)] v1)) (ca:Ca1 s.heap)
 (its:Items s.heap vs Ts X Y ta tb) (nT:∀ j,j<vs.length->N≤Ts j) (nP:168<N) (hP:(kt w.params).get 168=none) (np:N≤p) (nd:N≤pd) (hpd:p ≠ pd) (lens:∀ j,j<vs.length->(X j).length<1000∧(Y j).length<1000)
 {E:Value->Shared->Prop} {Q:Fin->Shared->Prop} {m:Int} (hm:preSum (fun i=>((X i).length:Int) + ((Y i).length:Int)) vs.length=m) (h0:0≤m) (h1:m<2 ^ 63)
 (hR:∀ h' G' t' tk,KeepsP 168 s.heap h'->Ca1 h'->(kt w.params).Holds h' 1 0->s.heap.objs.size≤h'.objs.size->GB s.gens G'->Q (.done (.ret (.int m tk))) ⟨h',G',s.drawn,t',s.os⟩) :
 wpAny (model thePw w) A (Builtin.«len» ⟨[.ref p],[]⟩) Q E s:=by
 unfold Builtin.«len»
 refine wpAny_bind (m:=oneArg "len" _) (wpAny_pure ?_)
 refine wpAny_bind (m:=callSpecial? (.ref p) (Str.ofString "__len__")) ?_
 unfold callSpecial?
 rw [nLenS]
 have sp:=L.sp w p pd vs n
 unfold lenSpQ at sp
 rw [← PySem.W.Fast.te4214721358667687652] at sp
 refine wpAny_bind ((qrunP_ok (A:=A) (E:=E) 40 1 _ [] _ _ s _ sp).2 (fun x hx=>by rw [List.mem_singleton] at hx; subst hx; rfl) C.hb reg ?_)
 have hfn:=L.fn w.params
 unfold isFn at hfn
 split at hfn
 · rename_i of ho
   split at hfn
   · rename_i ty hc
     obtain rfl:=isId_eq hfn
     have hof:s.heap.get? 173=some of:=by
      have:=KT.Holds.get C.hb ho
      rw [Nat.one_mul,Nat.add_zero] at this
      exact this
     refine wpAny_holding (wpAny_bind (wpAny_bindSpecial_def hof hc ?_))
     have key:wpAny (model thePw w) A (call (.ref 173) [.ref p]) (fun r s'=>(∃ u,r = .int m u)∧∀ t' tk,Q (.done (.ret (.int m tk))) { s' with toks:=t' }) E s:=by
      refine wpAny_call (len_c K C reg dict ca its nT nP hP np nd hpd lens fun h' G' t' tk k1 k2 k3 k4 k5=>?_)
      rw [hm]
      exact ⟨⟨_,rfl⟩,fun t'' tk'=>hR h' G' t'' tk' k1 k2 k3 k4 k5⟩
     first
      | refine wpAny_bind (wpAny_mono key (fun v s' h'=>wpAny_pure ?_) fun _ _ h'=>h')
      | refine wpAny_pure (wpAny_bind (wpAny_mono key (fun v s' h'=>wpAny_pure ?_) fun _ _ h'=>h'))
     obtain ⟨⟨u,rfl⟩,hq⟩:=h'
     refine wpAny_bind (wpAny_holding (wpAny_pure ?_))
     refine wpAny_bind (wpAny_letGo ?_)
     show wpAny _ _ (if m<0 then _ else _) _ _ _
     rw [if_neg (by exact om194 h0)]
     show wpAny _ _ (if m ≥ 2 ^ 63 then _ else _) _ _ _
     rw [if_neg (by exact om195 h1)]
     exact wpAny_bind (wpAny_mkInt (wpAny_pure (hq _ _)))
   · cases hfn
 · cases hfn
theorem check_len (p:Addr):checkBuiltinCall "len" ⟨[.ref p],[]⟩=pure ():=by kernel_rfl
theorem len_b (K:GenK kt) (L:LenK kt) (C:Cx (kt w.params) N 245 A s.heap) (reg:s.heap.get? p=some (oInst 206 pd vs n)) (dict:s.heap.get? pd=some (oDict [ky w.params sSize τ0 (.int 0 τ1)] v1)) (ca:Ca1 s.heap)
 (its:Items s.heap vs Ts X Y ta tb) (nT:∀ j,j<vs.length->N≤Ts j) (nP:168<N) (hP:(kt w.params).get 168=none) (np:N≤p) (nd:N≤pd) (hpd:p ≠ pd) (lens:∀ j,j<vs.length->(X j).length<1000∧(Y j).length<1000)
 {m:Int} (hm:preSum (fun i=>((X i).length:Int) + ((Y i).length:Int)) vs.length=m) (h0:0≤m) (h1:m<2 ^ 63) {c:Code} (hc:c = .call (.builtin "len") ⟨[.ref p],[]⟩∨c = .builtin "len" ⟨[.ref p],[]⟩)
 (hR:∀ h' G' t' tk,KeepsP 168 s.heap h'->Ca1 h'->(kt w.params).Holds h' 1 0->s.heap.objs.size≤h'.objs.size->GB s.gens G'->R (.ok (.ret (.int m tk))) ⟨h',G',s.drawn,t',s.os⟩):codeAny (model thePw w) A c R s:=by
 rcases hc with rfl | rfl
 · refine codeAny_call_builtin plain_len entry_len ?_
   rw [check_len]
   exact wpAny_pure (len_tree K L C.in1 reg dict ca its nT nP hP np nd hpd lens hm h0 h1 hR)
 · refine codeAny_builtin entry_len ?_
   rw [Around.under_plainId plain_len _]
   exact len_tree K L C.in1 reg dict ca its nT nP hP np nd hpd lens hm h0 h1 hR
end
end
section
structure LP where
 L:L2
 P:Params
 h0:Heap
 N:Nat
 m0:Nat
 vs:List Value
 Ts:Nat->Nat
 ds:List Int
 y:Str
 jt:List Str
noncomputable def LP.tx (x:LP):List Str:=(x.ds.map fun d=>Mine.tx [d])++[x.y]
noncomputable def Pool (x:LP) (ad:Nat->Nat):Prop:=x.vs.length=x.ds.length∧x.vs.length + 1<1000∧∀ j,j<x.vs.length->x.vs[j]? = some (.ref (x.Ts j))∧(∃ t u,x.h0.get? (x.Ts j)=some (oTup [.str ⟨⟨[]⟩⟩ t,.str (tx [x.ds.getD j 0]) u]))∧x.N≤x.Ts j∧∀ i,i<x.m0->@Ne Nat (ad i) (x.Ts j)
noncomputable def RegOk (x:LP) (ad:Nat->Nat) (j k m:Nat) (o od ot:Obj):Prop :=
 (∃ n,o=oInst 206 (ad k) (x.vs++[.ref (ad m)]) n)∧(∃ t0 t1 v,od=oDict [ky x.P sSize t0 (.int 0 t1)] v)∧(∃ t u,ot=oTup [.str ⟨⟨[]⟩⟩ t,.str x.y u])∧(Pool x ad∧x.y.length<1000)∧j ≠ k
noncomputable def ctLen (x:LP) (q a:Nat) (T:BT) (ad:Nat->Nat) (tk:Nat->Nat) (i:Nat):Option Ct:=match T.get (x.L.jl q) with
 | some o=>match T.get (x.L.kl q) with
  | some od=>match T.get (x.L.ml q) with
   | some ot=>some ⟨[],.int (x.L.l.il q) (tk i),@Eq Nat a (ad (x.L.jl q))∧RegOk x ad (x.L.jl q) (x.L.kl q) (x.L.ml q) o od ot∧x.L.l.il q=(((x.tx.map (·.length)).sum:Nat):Int)⟩
   | none=>none
  | none=>none
 | none=>none
noncomputable def ctStr (x:LP) (q a:Nat) (T:BT) (ad:Nat->Nat) (tk:Nat->Nat) (i:Nat):Option Ct:=match T.get (x.L.jl q) with
 | some o=>match T.get (x.L.kl q) with
  | some od=>match T.get (x.L.ml q) with
   | some ot=>some ⟨[],.str (x.L.l.sl q) (tk i),@Eq Nat a (ad (x.L.jl q))∧RegOk x ad (x.L.jl q) (x.L.kl q) (x.L.ml q) o od ot∧x.L.l.sl q=Txt.join ⟨⟨[]⟩⟩ x.tx⟩
   | none=>none
  | none=>none
 | none=>none
noncomputable def ctJoin (x:LP) (q a:Nat) (sep:Str) (T:BT) (ad:Nat->Nat) (tk:Nat->Nat) (i:Nat):Option Ct:=match T.get (x.L.jl q) with
 | some o=>match o.data with
  | .seq ys _=>some ⟨[],.str (x.L.l.sl q) (tk i),@Eq Nat a (ad (x.L.jl q))∧o.cls = .type "list"∧StrsAre ys.toList x.jt∧(x.jt.map (·.length)).sum + x.jt.length * sep.length≤16777216∧x.L.l.sl q=Txt.join sep x.jt⟩
  | _=>none
 | none=>none
noncomputable def ctP1 (x:LP) (q:Nat) (f:Value) (a:Addr) (T:BT) (ad:Nat->Nat) (tk:Nat->Nat) (i:Nat):Option Ct:=match f with
 | .builtin id=>match isId id "len" with
  | true=>ctLen x q a T ad tk i
  | false=>none
 | .ref b=>match Nat.beq b 180 with
  | true=>ctStr x q a T ad tk i
  | false=>none
 | _=>none
noncomputable def ctPj (x:LP) (q:Nat) (f:Value) (sep:Str) (a:Addr) (T:BT) (ad:Nat->Nat) (tk:Nat->Nat) (i:Nat):Option Ct:=match f with
 | .builtin id=>match isId id "str.join" with
  | true=>ctJoin x q a sep T ad tk i
  | false=>none
 | _=>none
noncomputable def ctP (x:LP):Nat->Code->BT->(Nat->Nat)->Nat->(Nat->Nat)->Nat->Option Ct:=fun q c T ad _ tk i=>match xcL (xl1 xvr) c with
 | some (f,a)=>ctP1 x q f a T ad tk i
 | none=>match xbL (xl1 xvr) c with
  | some (id,a)=>match isId id "len" with
   | true=>ctLen x q a T ad tk i
   | false=>none
  | none=>match xcL (xl2 xvs xvr) c with
   | some (f,s,a)=>ctPj x q f s.1 a T ad tk i
   | none=>none
theorem ctP_1 {x:LP} {q m i:Nat} {f:Value} {a:Addr} {T:BT} {ad tk:Nat->Nat}:ctP x q (.call f ⟨[.ref a],[]⟩) T ad m tk i=ctP1 x q f a T ad tk i:=rfl
theorem ctP_j {x:LP} {q m i:Nat} {f:Value} {s:Str} {t:Nat} {a:Addr} {T:BT} {ad tk:Nat->Nat}:ctP x q (.call f ⟨[.str s t,.ref a],[]⟩) T ad m tk i=ctPj x q f s a T ad tk i:=rfl
noncomputable def mkP (x:LP) (kt:KT) (w:World):En2:=⟨spP x.L kt w,ctP x,⟨PySem.Challenge.pw_tr0064_01,w.params⟩,kt⟩
class Bs where
 h:Heap
 n:Nat
noncomputable def Cas [B:Bs] (G:Array GenState) (h:Heap):Prop:=(Ca1 h∧Ca2 h)∧(∀ (b:Nat) o,b<B.n->b ≠ 168->b ≠ 175->B.h.get? b=some o->h.get? b=some o)∧AllBare G
variable [Bs]
theorem pre_sum {X:Nat->Str} (hX:∀ i,(X i).length=0) (l:List Str):∀ n,n≤l.length->preSum (fun i=>((X i).length:Int) + ((l.getD i ⟨⟨[]⟩⟩).length:Int)) n=((((l.take n).map (·.length)).sum:Nat):Int)
 | 0,_=>rfl
 | n + 1,h=>by
  show preSum _ n + (((X n).length:Int) + ((l.getD n ⟨⟨[]⟩⟩).length:Int))=_
  rw [pre_sum hX l n (by exact om4 h),hX,List.take_succ,List.getD_eq_getElem?_getD,List.getElem?_eq_getElem (by exact om5 h),List.map_append,List.sum_append]
  simp
theorem tx_length (x:LP):x.tx.length=x.ds.length + 1:=by simp [LP.tx]
theorem tx_small {x:LP} (h:x.y.length<1000):∀ i,(x.tx.getD i ⟨⟨[]⟩⟩).length<1000:=fun i=>by
 rw [List.getD_eq_getElem?_getD]
 cases e:x.tx[i]? with
 | none=>show 0<1000; decide
 | some z =>
  have hz:=List.mem_of_getElem? e
  simp only [LP.tx,List.mem_append,List.mem_map,List.mem_singleton] at hz
  rcases hz with ⟨d,_,rfl⟩ | rfl
  · show 1<1000; decide
  · exact h
theorem tx_sum {x:LP} (h:x.y.length<1000) (hl:x.ds.length<1000):(x.tx.map (·.length)).sum<2000:=by
 unfold LP.tx
 rw [List.map_append,List.sum_append,List.map_map]
 have:(x.ds.map ((fun z:Str=>z.length) ∘ fun d=>Mine.tx [d])).sum=x.ds.length:=by
  induction x.ds with
  | nil=>rfl
  | cons a l ih =>
   rw [List.map_cons,List.sum_cons,ih,List.length_cons]
   show 1 + l.length=_
   exact om6
 rw [this]
 simp only [List.map_cons,List.map_nil,List.sum_cons,List.sum_nil]
 exact om7 h hl
theorem rowTx_all (l:List Str):rowTx (fun _=>⟨⟨[]⟩⟩) (fun i=>l.getD i ⟨⟨[]⟩⟩) l.length=Txt.join ⟨⟨[]⟩⟩ l:=by
 unfold rowTx
 congr 1
 refine List.ext_getElem (by simp) fun k h1 h2=>?_
 simp only [List.getElem_map,List.getElem_range]
 rw [join2,List.getD_eq_getElem?_getD,List.getElem?_eq_getElem h2]
 show (⟨(⟨[]⟩:Array Nat)++l[k].cps⟩:Str)=l[k]
 rw [show ((⟨[]⟩:Array Nat)++l[k].cps)=l[k].cps from by simp]
section
variable {kt:Params->KT} {w:World} {x:LP} {D U:Nat}
theorem reg_of {G₀:Array GenState} {ad:Nat->Nat} {h:Heap} {T:BT} {m j k l:Nat} {o od ot:Obj} (R:Rep2 (kt w.params) x.N (Cas G₀) ad x.h0 x.m0 h T m) (ho:T.get j=some o) (hod:T.get k=some od) (hot:T.get l=some ot) (r:RegOk x ad j k l o od ot) :
 ∃ n t0 t1 v ta tb,h.get? (ad j)=some (oInst 206 (ad k) (x.vs++[Value.ref (ad l)]) n)∧h.get? (ad k)=some (oDict [ky x.P sSize t0 (.int 0 t1)] v) ∧
  Items h (x.vs++[Value.ref (ad l)]) (fun i=>if i<x.vs.length then x.Ts i else ad l) (fun _=>⟨⟨[]⟩⟩) (fun i=>x.tx.getD i ⟨⟨[]⟩⟩) ta tb∧(∀ i,i<(x.vs++[Value.ref (ad l)]).length->x.N≤(if i<x.vs.length then x.Ts i else ad l))∧x.N≤ad j∧x.N≤ad k∧@Ne Nat (ad j) (ad k):=by
 obtain ⟨⟨n,rfl⟩,⟨t0,t1,v,rfl⟩,⟨tt,tu,rfl⟩,⟨⟨hlen,hsz,pool⟩,hy⟩,hjk⟩:=r
 have hp:∀ i,i<x.vs.length->∃ t u,h.get? (x.Ts i)=some (oTup [.str ⟨⟨[]⟩⟩ t,.str (tx [x.ds.getD i 0]) u]):=fun i hi=>by
  obtain ⟨_,⟨t,u,e⟩,hN,hne⟩:=pool i hi
  refine ⟨t,u,R.keep _ _ hN e fun j' hj'=>?_⟩
  by_cases q:j'<x.m0
  · exact hne j' q
  · have h1:=R.new j' (by exact om8 q) hj'
    have h2:=Heap.lt_size e
    exact fun q=>by rw [q] at h1; exact absurd h2 (Nat.not_lt.mpr h1)
 have ol:=R.own _ _ hot
 refine ⟨n,t0,t1,v,fun i=>if hi:i<x.vs.length then (hp i hi).choose else tt,fun i=>if hi:i<x.vs.length then (hp i hi).choose_spec.choose else tu,(R.own _ _ ho).2,(R.own _ _ hod).2,fun i hi=>?_,fun i hi=>?_,R.off _ (R.own _ _ ho).1,R.off _ (R.own _ _ hod).1,fun e=>hjk (R.inj _ _ (R.own _ _ ho).1 (R.own _ _ hod).1 e)⟩
 · rw [List.length_append,List.length_singleton] at hi
   by_cases q:i<x.vs.length
   · simp only [if_pos q,dif_pos q]
     refine ⟨by rw [List.getElem?_append_left q]; exact (pool i q).1,?_⟩
     have e:x.tx.getD i ⟨⟨[]⟩⟩=Mine.tx [x.ds.getD i 0]:=by
      unfold LP.tx
      rw [List.getD_eq_getElem?_getD,List.getD_eq_getElem?_getD,List.getElem?_append_left (by rw [List.length_map]; exact om9 hlen q),List.getElem?_map,List.getElem?_eq_getElem (by exact om9 hlen q)]
      rfl
     rw [e]
     exact (hp i q).choose_spec.choose_spec
   · have:i=x.vs.length:=by exact om10 hi q
     subst this
     simp only [if_neg q,dif_neg q]
     refine ⟨by simp,?_⟩
     have e:x.tx.getD x.vs.length ⟨⟨[]⟩⟩=x.y:=by
      rw [hlen]
      unfold LP.tx
      simp
     rw [e]
     exact ol.2
 · split
   · rename_i q; exact (pool i q).2.2.1
   · exact R.off _ ol.1
theorem Ca1_keep {h h':Heap} (k:KeepsP 175 h h') (a:Ca1 h):Ca1 h':=by
 rcases a with e | ⟨t1,t2,c,e⟩
 · exact .inl (k 168 _ (by decide) e)
 · exact .inr ⟨t1,t2,c,k 168 _ (by decide) e⟩
theorem Ca2_keep {h h':Heap} (k:KeepsP 168 h h') (a:Ca2 h):Ca2 h':=by
 rcases a with e | ⟨t1,t2,c,e⟩
 · exact .inl (k 175 _ (by decide) e)
 · exact .inr ⟨t1,t2,c,k 175 _ (by decide) e⟩
structure TopOk (kt:KT) (N:Nat):Prop where
 no1:kt.get 168=none
 no2:kt.get 175=none
 hN:175<N
 hB:Bs.n≤N
 top:∀ (a:Nat) x,kt.get a=some x->a<N
 lim:∀ h,kt.Holds h 1 0->h.NoLimit
theorem Cas_stb {kt:KT} {N:Nat} (T:TopOk kt N):∀ G h h',LowKeeps N h h'->Cas G h->Cas G h':=fun G h h' k ⟨⟨a,b⟩,c,d⟩=>by
 have hN:=T.hN
 refine ⟨⟨?_,?_⟩,fun x o h1 h2 h3 e=>k x o (Nat.lt_of_lt_of_le h1 T.hB) (c x o h1 h2 h3 e),d⟩
 · rcases a with e | ⟨t1,t2,c,e⟩
   · exact .inl (k 168 _ (by exact om11 hN) e)
   · exact .inr ⟨t1,t2,c,k 168 _ (by exact om11 hN) e⟩
 · rcases b with e | ⟨t1,t2,c,e⟩
   · exact .inl (k 175 _ hN e)
   · exact .inr ⟨t1,t2,c,k 175 _ hN e⟩
theorem ctP_ok (K:GenK kt) (L:LenK kt) (T0:TopOk (kt w.params) x.N) (hP:x.P=w.params) (hD:D + 245<recursionLimit):CtOk thePw w (mkP x (kt w.params) w) D U x.N Cas x.h0 x.m0:=by
 intro q c T ad m tk i A R s hA hd hu Rp hct hR
 obtain ⟨y,ey,hφ⟩:=hct ad tk (Agree.refl _ _) (Agree.refl _ _)
 have C:Cx (kt w.params) x.N 245 A s.heap:=⟨hA,by exact om12 hD hd,Rp.base,T0.top,T0.lim⟩
 have hR':=hR
 have lenC:∀ a,ctLen x q a T ad tk i=some y->(∀ tk':Nat->Nat,Agree i tk tk'->(mkP x (kt w.params) w).ct q c T ad m tk' i=ctLen x q a T ad tk' i)->(c = .call (.builtin "len") ⟨[.ref a],[]⟩∨c = .builtin "len" ⟨[.ref a],[]⟩)->codeAny (model thePw w) A c R s:=by
  intro a e he hc
  unfold ctLen at e
  split at e
  · rename_i o ho
    split at e
    · rename_i od hod
      split at e
      · rename_i ot hot
        cases e
        obtain ⟨ea,r,ei⟩:=hφ
        obtain ⟨n,t0,t1,v,ta,tb,e1,e2,e3,e4,e5,e6,e7⟩:=reg_of Rp ho hod hot r
        have hlen:(x.vs++[Value.ref (ad (x.L.ml q))]).length=x.ds.length + 1:=by rw [List.length_append,r.2.2.2.1.1.1]; rfl
        have hsmall:=r.2.2.2.1.1.2.1
        have hyl:=r.2.2.2.1.2
        have hl2:=r.2.2.2.1.1.1
        have hts:=tx_sum hyl (by exact om13 hsmall hl2)
        rw [hP] at e2
        refine len_b (m:=x.L.l.il q) K L C (by rw [ea]; exact e1) e2 Rp.inv.1.1 e3 e4 (by have:=T0.hN; exact om11 this) T0.no1 (by rw [ea]; exact e5) e6 (by rw [ea]; exact e7) (fun j hj=>⟨by show 0<1000; decide,tx_small hyl j⟩) ?_ (by exact om14 ei) (by exact om15 ei hts) hc ?_
        · rw [pre_sum (fun _=>rfl) x.tx _ (by rw [hlen,tx_length]; exact Nat.le_refl _),ei,hlen,← tx_length,List.take_length]
        · intro h' G' t' tk0 k1 k2 k3 k4 k5
          have z:=hR h' G' t' ad (fun j=>if j=i then tk0 else tk j) ⟨[],.int (x.L.l.il q) tk0,@Eq Nat a (ad (x.L.jl q))∧RegOk x ad (x.L.jl q) (x.L.kl q) (x.L.ml q) o od ot∧x.L.l.il q=(((x.tx.map (·.length)).sum:Nat):Int)⟩ (Agree.refl _ _) (fun j hj=>if_neg (by exact om16 hj)) (by
           rw [he _ (fun j hj=>if_neg (by exact om16 hj))]
           unfold ctLen
           simp only [ho,hod,hot,if_true]) (fun b o hb e=>k1 b o (show @Ne Nat b 168 by have:=T0.hN; exact om17 hb this) e) k3 ⟨⟨k2,Ca2_keep k1 Rp.inv.1.2⟩,fun b o h1 h2 h3 e=>k1 b o h2 (Rp.inv.2.1 b o h1 h2 h3 e),k5 Rp.inv.2.2⟩ k4 (fun j o e=>by simp at e) (fun j hj=>absurd hj (Nat.not_lt_zero _)) (fun i j hi=>absurd hi (Nat.not_lt_zero _))
          exact z
      · cases e
    · cases e
  · cases e
 have strC:∀ a,ctStr x q a T ad tk i=some y->(∀ tk':Nat->Nat,Agree i tk tk'->(mkP x (kt w.params) w).ct q c T ad m tk' i=ctStr x q a T ad tk' i)->c = .call (.ref 180) ⟨[.ref a],[]⟩->codeAny (model thePw w) A c R s:=by
  intro a e he hc
  unfold ctStr at e
  split at e
  · rename_i o ho
    split at e
    · rename_i od hod
      split at e
      · rename_i ot hot
        cases e
        obtain ⟨ea,r,ei⟩:=hφ
        obtain ⟨n,t0,t1,v,ta,tb,e1,e2,e3,e4,e5,e6,e7⟩:=reg_of Rp ho hod hot r
        have hlen:(x.vs++[Value.ref (ad (x.L.ml q))]).length=x.ds.length + 1:=by rw [List.length_append,r.2.2.2.1.1.1]; rfl
        have hsmall:=r.2.2.2.1.1.2.1
        have hyl:=r.2.2.2.1.2
        have hl2:=r.2.2.2.1.1.1
        have hts:=tx_sum hyl (by exact om13 hsmall hl2)
        rw [hP] at e2
        rw [hc]
        refine str_c K C (by rw [ea]; exact e1) e2 Rp.inv.1.2 e3 e4 T0.hN T0.no2 (by rw [ea]; exact e5) e6 (by rw [ea]; exact e7) (fun j hj=>⟨by show 0<1000; decide,tx_small hyl j⟩) (by rw [hlen]; exact om18 hsmall hl2) ?_
        intro h' G' t' tk0 k1 k2 k3 k4 k5
        have et:rowTx (fun _=>⟨⟨[]⟩⟩) (fun i=>x.tx.getD i ⟨⟨[]⟩⟩) (x.vs++[Value.ref (ad (x.L.ml q))]).length=x.L.l.sl q:=by
         rw [hlen,← tx_length,rowTx_all,ei]
        rw [et]
        have z:=hR h' G' t' ad (fun j=>if j=i then tk0 else tk j) ⟨[],.str (x.L.l.sl q) tk0,@Eq Nat a (ad (x.L.jl q))∧RegOk x ad (x.L.jl q) (x.L.kl q) (x.L.ml q) o od ot∧x.L.l.sl q=Txt.join ⟨⟨[]⟩⟩ x.tx⟩ (Agree.refl _ _) (fun j hj=>if_neg (by exact om16 hj)) (by
         rw [he _ (fun j hj=>if_neg (by exact om16 hj))]
         unfold ctStr
         simp only [ho,hod,hot,if_true]) (fun b o hb e=>k1 b o (show @Ne Nat b 175 by have:=T0.hN; exact om19 hb this) e) k3 ⟨⟨Ca1_keep k1 Rp.inv.1.1,k2⟩,fun b o h1 h2 h3 e=>k1 b o h3 (Rp.inv.2.1 b o h1 h2 h3 e),k5 Rp.inv.2.2⟩ k4 (fun j o e=>by simp at e) (fun j hj=>absurd hj (Nat.not_lt_zero _)) (fun i j hi=>absurd hi (Nat.not_lt_zero _))
        exact z
      · cases e
    · cases e
  · cases e
 have ey0:=ey
 unfold mkP ctP at ey
 dsimp only at ey
 split at ey
 · rename_i f a hc
   obtain rfl:=c1_some hc
   unfold ctP1 at ey
   split at ey
   · rename_i id
     split at ey
     · rename_i hid
       obtain rfl:=isId_eq hid
       exact lenC a ey (fun tk' _=>rfl) (.inl rfl)
     · cases ey
   · rename_i b
     split at ey
     · rename_i hb
       obtain rfl:=Nat.eq_of_beq_eq_true hb
       exact strC a ey (fun tk' _=>rfl) rfl
     · cases ey
   · cases ey
 · split at ey
   · rename_i id a hc
     obtain rfl:=b1_some hc
     split at ey
     · rename_i hid
       obtain rfl:=isId_eq hid
       exact lenC a ey (fun tk' _=>rfl) (.inr rfl)
     · cases ey
   · split at ey
     · rename_i f sv a hc
       obtain rfl:=cj_some hc
       obtain ⟨sep,tv⟩:=sv
       unfold ctPj at ey
       dsimp only at ey
       split at ey
       · rename_i id
         split at ey
         · rename_i hid
           obtain rfl:=isId_eq hid
           unfold ctJoin at ey
           split at ey
           · rename_i o ho
             split at ey
             · rename_i ys n hd
               cases ey
               obtain ⟨ea,hcl,hst,hb,es⟩:=hφ
               obtain ⟨l,hv,hl⟩:=strsAre_values hst
               have hok:=joinOk_of hb
               rw [← hl] at hok es
               have hok2:=hok
               unfold JoinOk at hok2
               rw [Bool.not_eq_true'] at hok2
               have hat:s.heap.get? a=some o:=by rw [ea]; exact (Rp.own _ _ ho).2
               refine codeAny_call_builtin F.slot_str_join.plain F.entry_str_join (F.slot_str_join.check _ _ _ _ _ _ _ _ (typeIs_str _ _ _) (F.args_str_join_2 _ _) ?_)
               have hys:ys=(strValues l).toArray:=by rw [← hv]
               refine meets_str_join_list sep tv a l hok2 thePw w A R s ⟨⟨o,hat,hcl,n,by rw [hd,hys]⟩,post_join (Q:=fun v s'=>R (.ok (.ret v)) s') l ⟨joinFit_length hok2,fun t' k=>?_⟩⟩
               rw [← es]
               refine hR s.heap s.gens k ad (fun j=>if j=i then t' else tk j) ⟨[],.str (x.L.l.sl q) t',@Eq Nat a (ad (x.L.jl q))∧o.cls = .type "list"∧StrsAre ys.toList x.jt∧(x.jt.map (·.length)).sum + x.jt.length * sep.length≤16777216∧x.L.l.sl q=Txt.join sep x.jt⟩ (Agree.refl _ _) (fun j hj=>if_neg (by exact om16 hj)) (by
                unfold mkP
                dsimp only
                rw [ctP_j]
                unfold ctPj ctJoin
                simp only [hid,ho,hd,if_true]) (fun b o hb e=>e) Rp.base Rp.inv (Nat.le_refl _) (fun j o e=>by simp at e) (fun j hj=>absurd hj (Nat.not_lt_zero _)) (fun i j hi=>absurd hi (Nat.not_lt_zero _))
             · cases ey
           · cases ey
         · cases ey
       · cases ey
     · cases ey
theorem pool_cong {ad ad':Nat->Nat} (h:∀ i,i<x.m0->@Eq Nat (ad' i) (ad i)):Pool x ad'=Pool x ad:=by
 unfold Pool
 refine propext ⟨fun ⟨a,b,c⟩=>⟨a,b,fun j hj=>?_⟩,fun ⟨a,b,c⟩=>⟨a,b,fun j hj=>?_⟩⟩
 · obtain ⟨c1,c2,c3,c4⟩:=c j hj
   exact ⟨c1,c2,c3,fun i hi=>by rw [← h i hi]; exact c4 i hi⟩
 · obtain ⟨c1,c2,c3,c4⟩:=c j hj
   exact ⟨c1,c2,c3,fun i hi=>by rw [h i hi]; exact c4 i hi⟩
theorem ctP_cong {kt:KT}:CtCong (mkP x kt w) x.m0:=by
 intro q c T ad m tk i y hm hT e ad' tk' ha ht
 have hi:tk' i=tk i:=ht i (by exact om20)
 have hag:∀ j z,T.get j=some z->@Eq Nat (ad' j) (ad j):=fun j z hz=>ha j (by have:=hT j z hz; exact om21 this)
 have pool:Pool x ad'=Pool x ad:=pool_cong fun j hj=>ha j (by exact om22 hm hj)
 have l1:∀ a,ctLen x q a T ad' tk' i=ctLen x q a T ad tk i:=fun a=>by
  unfold ctLen
  split
  · rename_i o ho
    split
    · rename_i od hod
      split
      · rename_i ot hot
        unfold RegOk
        rw [hi,pool,hag _ _ ho,hag _ _ hod,hag _ _ hot]
      · rfl
    · rfl
  · rfl
 have l2:∀ a,ctStr x q a T ad' tk' i=ctStr x q a T ad tk i:=fun a=>by
  unfold ctStr
  split
  · rename_i o ho
    split
    · rename_i od hod
      split
      · rename_i ot hot
        unfold RegOk
        rw [hi,pool,hag _ _ ho,hag _ _ hod,hag _ _ hot]
      · rfl
    · rfl
  · rfl
 have l3:∀ a sep,ctJoin x q a sep T ad' tk' i=ctJoin x q a sep T ad tk i:=fun a sep=>by
  unfold ctJoin
  split
  · rename_i o ho
    rw [hi,hag _ _ ho]
  · rfl
 have:(mkP x kt w).ct q c T ad' m tk' i=(mkP x kt w).ct q c T ad m tk i:=by
  show ctP x q c T ad' m tk' i=ctP x q c T ad m tk i
  unfold ctP ctP1 ctPj
  simp only [l1,l2,l3]
 rw [this]
 exact e
end
end
section
universe u
noncomputable def Rs2.l1 (rs:Rs2):List Nat:=rs.ob.map Prod.fst
noncomputable def Rs2.s1 (rs:Rs2):List (Sem Fin):=rs.sb.map Prod.fst
noncomputable abbrev Seen2 (X:Type u):=Option (X×List Prop×List Nat×List Nat×List (Sem Fin)×List (Sem Fin))
noncomputable def Rs2.dn {X:Type u} (rs:Rs2) (f:Result->BT->Nat->X):Seen2 X:=match rs with
 | .done r T m _ ob op sb=>some (f r T m,op,ob.map Prod.fst,ob.map Prod.snd,sb.map Prod.fst,sb.map Prod.snd)
 | _=>none
noncomputable def Rs2.stq {X:Type u} (rs:Rs2) (f:Code->Nat->BT->Nat->X):Seen2 X:=match rs with
 | .stop c' _ _ _ d T m _ ob op sb=>some (f c' d T m,op,ob.map Prod.fst,ob.map Prod.snd,sb.map Prod.fst,sb.map Prod.snd)
 | _=>none
noncomputable def Rs2.agn {X:Type u} (rs:Rs2) (f:Code->BT->Nat->X):Seen2 X:=match rs with
 | .again c' .nil _ T m _ ob op sb=>some (f c' T m,op,ob.map Prod.fst,ob.map Prod.snd,sb.map Prod.fst,sb.map Prod.snd)
 | _=>none
noncomputable def Rs2.sc (rs:Rs2):Code:=match rs with
 | .stop _ c _ _ _ _ _ _ _ _ _=>c
 | _=>default
noncomputable def Rs2.sk (rs:Rs2):Result->Sem Fin:=match rs with
 | .stop _ _ k _ _ _ _ _ _ _ _=>k
 | _=>fun _=>.unsupported ""
noncomputable def Rs2.sκ (rs:Rs2):Kn:=match rs with
 | .stop _ _ _ κ _ _ _ _ _ _ _=>κ
 | _=>.nil
noncomputable def Rs2.sd (rs:Rs2):Nat:=match rs with
 | .stop _ _ _ _ d _ _ _ _ _ _=>d
 | _=>0
noncomputable def Rs2.code:Rs2->Code
 | .stop c' _ _ _ _ _ _ _ _ _ _=>c'
 | _=>default
noncomputable def Seen2.is {X:Type u} (s:Seen2 X) (x:X) (ops:List Prop) (l:List Nat) (t:List (Sem Fin)):Prop:=s=some (x,ops,l,l,t,t)
noncomputable def adJ (as:List Nat) (f:Nat->Nat) (j:Nat):Nat:=if j<as.length then as.getD j 0 else f j
theorem adJ_self {as:List Nat} {ad:Nat->Nat} (h:∀ j,j<as.length->@Eq Nat (ad j) (as.getD j 0)):adJ as ad=ad:=by
 funext j
 unfold adJ
 split
 · rename_i hj; exact (h j hj).symm
 · rfl
structure Cx2 (w:World) (E:En2) (A:Around) (N:Nat) (I:Array GenState->Heap->Prop) (m₀:Nat) (s:Shared):Prop where
 hst:E.st=⟨thePw,w.params⟩
 hA:A.handled=none
 hd:A.depth + 70<recursionLimit
 hu:A.units + 300<cLine
 hsp:SpOk2 thePw w E (A.depth + 70) N I s.heap m₀
 hct:CtOk thePw w E (A.depth + 70) (A.units + 210) N I s.heap m₀
 hcg:CtCong E m₀
 lim:∀ h,E.kt.Holds h 1 0->h.NoLimit
 hN:N≤s.heap.objs.size
 base:E.kt.Holds s.heap 1 0
 top:∀ (a:Nat) x,E.kt.get a=some x->a<N
 inv:I s.gens s.heap
 stb:∀ G h h',LowKeeps N h h'->I G h->I G h'
theorem Rep2.init {kt:KT} {N:Nat} {I:Heap->Prop} {h:Heap} (as:List Nat) (l:List Obj) (f:Nat->Nat) (hb:kt.Holds h 1 0) (top:∀ (a:Nat) x,kt.get a=some x->a<N) (hi:I h) (st:∀ h h',LowKeeps N h h'->I h->I h') (hn:as.Nodup) (ho:as.map h.get? = l.map some) (off:∀ a∈as,N≤a):Rep2 kt N I (adJ as f) h as.length h (bt l) as.length:=by
 have D:=Rep.init (kt:=.nil) (N:=0) as l (trivial:KT.nil.Holds h 1 0) hn ho (fun a x e=>by cases e) (fun a _=>Nat.zero_le a)
 have ag:∀ j,j<as.length->adJ as f j=adOf as h j:=fun j hj=>by
  unfold adJ adOf
  rw [if_pos hj,if_pos hj]
 refine ⟨hb,top,Nat.le_refl _,fun j hj=>by rw [ag j hj]; exact D.low j hj,fun i j hi hj e=>?_,fun j x e=>?_,fun j hj=>?_,fun a x _ e _=>e,Nat.le_refl _,fun j h1 h2=>by exact om257 h1 h2,hi,st⟩
 · rw [ag i hi,ag j hj] at e
   exact D.inj i j hi hj e
 · have z:=D.own j x e
   exact ⟨z.1,by rw [ag j z.1]; exact z.2⟩
 · unfold adJ
   rw [if_pos hj,List.getD_eq_getElem?_getD,List.getElem?_eq_getElem hj]
   exact off _ (List.getElem_mem hj)
section
variable {E:En2} {w:World} {A:Around} {R:Result->Shared->Prop} {s:Shared} {N:Nat} {I:Array GenState->Heap->Prop} {n o:Nat} {X:Type u} {b:Bool} {c:Code} {t:Sem Fin} {κ:Kn} {d:Nat}
theorem seg2 (as:List Nat) (l:List Obj) (C:Cx2 w E A N I as.length s) (hn:as.Nodup) (ho:as.map s.heap.get? = l.map some) (off:∀ a∈as,N≤a) (hk:κ.okc) (hc:c.isCaller=false) (hl:κ.len≤d) (hl2:κ.len≤13)
 (H:∀ f tk:Nat->Nat,(∀ p∈(run2 E (adJ as f) tk n b c t κ d (bt l) as.length 0 o [] [] []).ob,p.1=p.2)∧((∀ p∈(run2 E (adJ as f) tk n b c t κ d (bt l) as.length 0 o [] [] []).op,p)∧∀ p∈(run2 E (adJ as f) tk n b c t κ d (bt l) as.length 0 o [] [] []).sb,p.1=p.2) ∧
  Good2 thePw w A R E N I s.heap as.length s.drawn s.os (adJ as f) (run2 E (adJ as f) tk n b c t κ d (bt l) as.length 0 o [] [] [])):Means thePw w A R b c t κ s:=by
 refine sound2 C.hst C.hA C.hd C.hu C.hsp C.hct C.hcg C.lim C.stb n b c t κ d (bt l) as.length 0 o [] [] [] (adJ as fun _=>0) (fun _=>0) s.heap s.gens s.toks hk hc hl hl2 (Rep2.init as l _ C.base C.top C.inv (C.stb _) hn ho off) C.hN (fun ad' tk' ha _=>?_)
 have e:adJ as ad'=ad':=adJ_self fun j hj=>by
  rw [ha j hj]
  unfold adJ
  rw [if_pos hj]
 have z:=H ad' tk'
 rw [e] at z
 exact z
theorem eqs_of {α β:Type} {f g:α->β} {l:List α} (h:l.map f=l.map g):∀ p∈l,f p=g p:=fun p hp=>eq_all h p hp
theorem seg2_dn (as:List Nat) (l:List Obj) (C:Cx2 w E A N I as.length s) (hn:as.Nodup) (ho:as.map s.heap.get? = l.map some) (off:∀ a∈as,N≤a) (hk:κ.okc) (hc:c.isCaller=false) (hl:κ.len≤d) (hl2:κ.len≤13)
 (F:Result->BT->Nat->X) (x:(Nat->Nat)->(Nat->Nat)->X) (ops:(Nat->Nat)->(Nat->Nat)->List Prop)
 (e:∀ f tk:Nat->Nat,(run2 E (adJ as f) tk n b c t κ d (bt l) as.length 0 o [] [] []).dn F=some (x (adJ as f) tk,ops (adJ as f) tk,(run2 E (adJ as f) tk n b c t κ d (bt l) as.length 0 o [] [] []).l1,(run2 E (adJ as f) tk n b c t κ d (bt l) as.length 0 o [] [] []).l1,(run2 E (adJ as f) tk n b c t κ d (bt l) as.length 0 o [] [] []).s1,(run2 E (adJ as f) tk n b c t κ d (bt l) as.length 0 o [] [] []).s1))
 (hop:∀ f tk:Nat->Nat,∀ p∈ops (adJ as f) tk,p)
 (hR:∀ h' G' t' (f tk:Nat->Nat) r T' m',F r T' m'=x (adJ as f) tk->Rep2 E.kt N (I G') (adJ as f) s.heap as.length h' T' m'->R r ⟨h',G',s.drawn,t',s.os⟩):Means thePw w A R b c t κ s:=by
 refine seg2 (n:=n) (o:=o) as l C hn ho off hk hc hl hl2 fun f tk=>?_
 have e0:=e f tk
 revert e0
 generalize run2 E (adJ as f) tk n b c t κ d (bt l) as.length 0 o [] [] []=rs
 intro e0
 cases rs with
 | done r T' m' i ob op sb =>
  simp only [Rs2.dn,Option.some.injEq,Prod.mk.injEq] at e0
  obtain ⟨e1,e2,e3,e4,e5,e6⟩:=e0
  subst e2
  exact ⟨eqs_of (show ob.map Prod.fst=ob.map Prod.snd from e4.symm),⟨hop f tk,eqs_of (show sb.map Prod.fst=sb.map Prod.snd from e6.symm)⟩,fun h G t D=>hR h G t f tk r T' m' e1 D⟩
 | _=>cases e0
theorem seg2_agn (as:List Nat) (l:List Obj) (C:Cx2 w E A N I as.length s) (hn:as.Nodup) (ho:as.map s.heap.get? = l.map some) (off:∀ a∈as,N≤a) (hk:κ.okc) (hc:c.isCaller=false) (hl:κ.len≤d) (hl2:κ.len≤13)
 (F:Code->BT->Nat->X) (x:(Nat->Nat)->(Nat->Nat)->X) (ops:(Nat->Nat)->(Nat->Nat)->List Prop)
 (e:∀ f tk:Nat->Nat,(run2 E (adJ as f) tk n b c t κ d (bt l) as.length 0 o [] [] []).agn F=some (x (adJ as f) tk,ops (adJ as f) tk,(run2 E (adJ as f) tk n b c t κ d (bt l) as.length 0 o [] [] []).l1,(run2 E (adJ as f) tk n b c t κ d (bt l) as.length 0 o [] [] []).l1,(run2 E (adJ as f) tk n b c t κ d (bt l) as.length 0 o [] [] []).s1,(run2 E (adJ as f) tk n b c t κ d (bt l) as.length 0 o [] [] []).s1))
 (hop:∀ f tk:Nat->Nat,∀ p∈ops (adJ as f) tk,p)
 (hR:∀ h' G' t' (f tk:Nat->Nat) c' T' m',F c' T' m'=x (adJ as f) tk->Rep2 E.kt N (I G') (adJ as f) s.heap as.length h' T' m'->codeAny (model thePw w) A c' R ⟨h',G',s.drawn,t',s.os⟩):Means thePw w A R b c t κ s:=by
 refine seg2 (n:=n) (o:=o) as l C hn ho off hk hc hl hl2 fun f tk=>?_
 have e0:=e f tk
 revert e0
 generalize run2 E (adJ as f) tk n b c t κ d (bt l) as.length 0 o [] [] []=rs
 intro e0
 cases rs with
 | again c' κ' d' T' m' i ob op sb =>
  cases κ' with
  | nil =>
   simp only [Rs2.agn,Option.some.injEq,Prod.mk.injEq] at e0
   obtain ⟨e1,e2,e3,e4,e5,e6⟩:=e0
   subst e2
   exact ⟨eqs_of (show ob.map Prod.fst=ob.map Prod.snd from e4.symm),⟨hop f tk,eqs_of (show sb.map Prod.fst=sb.map Prod.snd from e6.symm)⟩,fun _ _ _ h G t D=>hR h G t f tk c' T' m' e1 D⟩
  | cons _ _ _=>cases e0
 | _=>cases e0
theorem seg2_stq (as:List Nat) (l:List Obj) (C:Cx2 w E A N I as.length s) (hn:as.Nodup) (ho:as.map s.heap.get? = l.map some) (off:∀ a∈as,N≤a) (hk:κ.okc) (hc:c.isCaller=false) (hl:κ.len≤d) (hl2:κ.len≤13)
 (F:Code->Nat->BT->Nat->X) (x:(Nat->Nat)->(Nat->Nat)->X) (ops:(Nat->Nat)->(Nat->Nat)->List Prop) (rs:(Nat->Nat)->(Nat->Nat)->Rs2)
 (hrs:∀ f tk:Nat->Nat,rs (adJ as f) tk=run2 E (adJ as f) tk n b c t κ d (bt l) as.length 0 o [] [] [])
 (e:∀ f tk:Nat->Nat,(rs (adJ as f) tk).stq F=some (x (adJ as f) tk,ops (adJ as f) tk,(rs (adJ as f) tk).l1,(rs (adJ as f) tk).l1,(rs (adJ as f) tk).s1,(rs (adJ as f) tk).s1))
 (hop:∀ f tk:Nat->Nat,∀ p∈ops (adJ as f) tk,p)
 (hR:∀ h' G' t' (f tk:Nat->Nat) c' T' m',F c' (rs (adJ as f) tk).sd T' m'=x (adJ as f) tk->Rep2 E.kt N (I G') (adJ as f) s.heap as.length h' T' m'->(rs (adJ as f) tk).sκ.okc->(rs (adJ as f) tk).sc.isCaller=false->(rs (adJ as f) tk).sκ.len≤(rs (adJ as f) tk).sd->(rs (adJ as f) tk).sκ.len≤42 →
  codeAny (model thePw w) (arK A (.cons (rs (adJ as f) tk).sc (rs (adJ as f) tk).sk (rs (adJ as f) tk).sκ)) c' (fun r s'=>Means thePw w A R false (rs (adJ as f) tk).sc ((rs (adJ as f) tk).sk r) (rs (adJ as f) tk).sκ s') ⟨h',G',s.drawn,t',s.os⟩):Means thePw w A R b c t κ s:=by
 refine seg2 (n:=n) (o:=o) as l C hn ho off hk hc hl hl2 fun f tk=>?_
 have e0:=e f tk
 have hR0:=fun h' G' t' c' T' m'=>hR h' G' t' f tk c' T' m'
 rw [← hrs f tk]
 revert e0 hR0
 generalize rs (adJ as f) tk=rs
 intro e0 hR0
 cases rs with
 | stop c' c₁ k κ' d' T' m' i ob op sb =>
  simp only [Rs2.stq,Option.some.injEq,Prod.mk.injEq] at e0
  obtain ⟨e1,e2,e3,e4,e5,e6⟩:=e0
  subst e2
  exact ⟨eqs_of (show ob.map Prod.fst=ob.map Prod.snd from e4.symm),⟨hop f tk,eqs_of (show sb.map Prod.fst=sb.map Prod.snd from e6.symm)⟩,fun q1 q2 q3 q4 h G t D=>hR0 h G t c' T' m' e1 D q1 q2 q3 q4⟩
 | _=>cases e0
end
end
noncomputable def L2.zero:L2:=⟨Lt.zero,fun _=>999,fun _=>999,fun _=>999,fun _=>[]⟩
noncomputable def LP.zero (w:World):LP:=⟨L2.zero,w.params,⟨#[],{}⟩,0,0,[],fun _=>0,[],⟨⟨[]⟩⟩,[]⟩
noncomputable def LP.put (x:LP) (w:World) (m0:Nat) (jl kl ml:Nat->Nat):LP:={ x with L:=⟨x.L.l,jl,kl,ml,fun _=>x.vs⟩,P:=w.params,m0:=m0 }
noncomputable def pgRunA (kt:KT) (w:World) (ad tk:Nat->Nat) (told:Str) (tt:Nat)  :Rs2:=run2 (mkP (LP.zero w) kt w) ad tk 460 true (.call (.ref 258) ⟨[.str told tt],[]⟩) (callF 258 ⟨[.str told tt],[]⟩ (defD kt 258)) .nil 0 (bt []) 0 0 zo48 [] [] []
noncomputable def adS (fr it:Nat) (g:Nat->Nat) (j:Nat):Nat:=match Nat.beq j 0 with
 | true=>fr
 | false=>match Nat.beq j 10 with
  | true=>it
  | false=>g j
theorem adS_self (g:Nat->Nat):adS (g 0) (g 10) g=g:=by
 funext j
 unfold adS
 cases h:Nat.beq j 0 with
 | true=>rw [Nat.eq_of_beq_eq_true h]
 | false=>cases h:Nat.beq j 10 with
  | true=>rw [Nat.eq_of_beq_eq_true h]
  | false=>rfl
noncomputable def PC (kt:KT) (w:World) (g:Nat->Nat) (fr it:Nat):Code:=(pgRunA kt w (adS fr it g) (fun _=>0) ⟨⟨[]⟩⟩ 0).code
noncomputable abbrev nPage:Str:=⟨⟨[112,97,103,101]⟩⟩
noncomputable abbrev nSign:Str:=⟨⟨[115,105,103,110]⟩⟩
noncomputable abbrev nMaxlen:Str:=⟨⟨[95,109,97,120,108,101,110]⟩⟩
noncomputable abbrev nCws:Str:=⟨⟨[95,99,111,110,116,105,110,117,97,116,105,111,110,95,119,115]⟩⟩
noncomputable abbrev nCwsl:Str:=⟨⟨[95,99,111,110,116,105,110,117,97,116,105,111,110,95,119,115,95,108,101,110]⟩⟩
noncomputable abbrev nSplit:Str:=⟨⟨[95,115,112,108,105,116,99,104,97,114,115]⟩⟩
noncomputable abbrev nLines:Str:=⟨⟨[95,108,105,110,101,115]⟩⟩
noncomputable abbrev nCur:Str:=⟨⟨[95,99,117,114,114,101,110,116,95,108,105,110,101]⟩⟩
noncomputable abbrev chSp:Str:=⟨⟨[32]⟩⟩
noncomputable abbrev chSemi:Str:=⟨⟨[59]⟩⟩
noncomputable abbrev chNl:Str:=⟨⟨[10]⟩⟩
noncomputable abbrev chNo:Str:=⟨⟨[]⟩⟩
structure PG where
 τ:Nat->Nat
 told:Str
 k:Nat
 ls:List Value
 nl:Nat
 nv:Nat
 sg:Str
 v:Nat->Nat
noncomputable def pgFr (P:Params) (later:Bool) (ad:Nat->Nat) (y:PG):Obj:=match later with
 | true=>oFrame [ky P nTold (y.τ 0) (.str y.told (y.τ 1)),ky P nPage (y.τ 2) (.ref (ad 1)),ky P nSign (y.τ 3) (.str y.sg (y.τ 4))] 3
 | false=>oFrame [ky P nTold (y.τ 0) (.str y.told (y.τ 1)),ky P nPage (y.τ 2) (.ref (ad 1))] 2
noncomputable abbrev oPage (ad:Nat->Nat):Obj:=⟨.ref 122,some (ad 2),.plain,#[]⟩
noncomputable def pgDict (P:Params) (ad:Nat->Nat) (y:PG):Obj:=oDict [ky P nMaxlen (y.τ 5) (.int 78 (y.τ 6)),ky P nCws (y.τ 7) (.str chSp (y.τ 8)),ky P nCwsl (y.τ 9) (.int 1 (y.τ 10)),ky P nSplit (y.τ 11) (.str chSemi (y.τ 12)),ky P nLines (y.τ 13) (.ref (ad 3)),ky P nCur (y.τ 14) (.ref (ad 4))] (y.v 0)
noncomputable abbrev oSit (told:Str) (t:Nat) (i:Int):Obj:=⟨.type "str_ascii_iterator",none,.fields ⟨[.str told t,.int i 0]⟩,#[]⟩
noncomputable def pgL (P:Params) (later:Bool) (ad:Nat->Nat) (x:LP) (y:PG):List Obj:=[pgFr P later ad y,oPage ad,pgDict P ad y,oList y.ls y.nl,oInst 206 (ad 5) x.vs y.nv,oDict [ky P sSize (y.τ 15) (.int 0 (y.τ 16))] (y.v 1),oSit y.told (y.τ 17) (Int.ofNat y.k)]
noncomputable def pgR (kt:KT) (w:World) (x:LP) (g ad tk:Nat->Nat) (L:List Obj) (n o:Nat)  :Rs2:=run2 (mkP x kt w) ad tk n false (PC kt w g (ad 0) (ad 6)) (denF (PC kt w g (ad 0) (ad 6))) .nil 0 (bt L) 7 0 o [] [] []
noncomputable def seqI (o:Option Obj):Option (Value×Option Addr×List Value×List (Option Value)):=match o with
 | some ⟨c,d,.seq a _,sl⟩=>some (c,d,a.toList,sl.toList)
 | _=>none
noncomputable def pgF (c:Code) (T:BT) (_:Nat):Code×Option Obj×Option Obj×Option Obj×Option Obj×Option (Value×Option Addr×List Value×List (Option Value))×Option Obj×Option Obj×Option Obj:=(c,T.get 0,T.get 1,T.get 2,T.get 3,seqI (T.get 4),T.get 5,T.get 6,T.get 8)
noncomputable def LP.nz (x:LP) (a b:Nat):LP:={ x with L:={ x.L with l:={ x.L.l with il:=fun q=>match Nat.beq q a with | true=>Int.ofNat (x.L.l.tk a + 1) | false=>match Nat.beq q b with | true=>Int.ofNat (x.L.l.tk a + 1) | false=>x.L.l.il q } } }
noncomputable def pgK (b:Bool) (y:PG) (tk:Nat->Nat):Nat:=match b with
 | true=>y.τ 3
 | false=>tk 1
noncomputable def pgLN (x:LP) (w:World):LP:=x.put w 7 (fun q=>match q with | 10=>6 | 11=>4 | _=>999) (fun _=>999) (fun _=>999)
noncomputable def pgNR (kt:KT) (w:World) (x:LP) (g ad tk:Nat->Nat) (b:Bool) (y:PG):Rs2:=pgR kt w (pgLN x w) g ad tk (pgL w.params b ad x y) 170 zo49
noncomputable def pgNX (P:Params) (b:Bool) (ad tk:Nat->Nat) (x:LP) (y:PG) (c:Code):Code×Option Obj×Option Obj×Option Obj×Option Obj×Option (Value×Option Addr×List Value×List (Option Value))×Option Obj×Option Obj×Option Obj:=(c,
 some (oFrame [ky P nTold (y.τ 0) (.str y.told (y.τ 1)),ky P nPage (y.τ 2) (.ref (ad 1)),ky P nSign (pgK b y tk) (.str (x.L.l.sl 10) (tk 0))] 3),some (oPage ad),some (pgDict P ad y),some (oList y.ls y.nl),some (.ref 206,some (ad 5),x.vs++[.ref (ad 8)],[]),some (oDict [ky P sSize (y.τ 15) (.int 0 (y.τ 16))] (y.v 1)),some (oSit y.told (y.τ 17) (Int.ofNat y.k + 1)),some (oTup [.str chNo (tk 3),.str (x.L.l.sl 10) (tk 0)]))
noncomputable def pgOk1 (ad:Nat->Nat) (j:Nat) (n:Nat):Prop:=@Eq Nat (ad j) (ad j)∧n + 1≤sizeLine
noncomputable def pgNext (ad:Nat->Nat) (y:PG) (z:Str):Prop:=@Eq Nat (ad 6) (ad 6)∧∃ k c:Nat,Int.ofNat y.k=(k:Int)∧y.told.cps[k]? = some c∧z=⟨#[c]⟩
noncomputable def pgNO (kt:KT) (w:World) (ad:Nat->Nat) (x:LP) (y:PG):List Prop:=[iCmp 0 (x.L.l.il 12 - 20) 0=false,dGet kt w 211 (x.L.l.sl 10) (.int (x.L.l.il 12) (x.L.l.tk 12)),pgOk1 ad 4 x.vs.length,pgNext ad y (x.L.l.sl 10)]
noncomputable def pgLZ (x:LP) (w:World):LP:=(x.nz 16 17).put w 7 (fun q=>match q with | 10=>6 | 11=>4 | 13=>4 | 14=>4 | 15=>12 | 16=>4 | 17=>4 | 18=>4 | 19=>4 | 20=>3 | 21=>4 | _=>999) (fun q=>match q with | 14=>12 | 15=>20 | 16=>5 | 17=>5 | 18=>5 | 19=>5 | 21=>24 | _=>999) (fun q=>match q with | 14=>8 | 15=>0 | 16=>8 | 17=>8 | 18=>8 | 19=>8 | 21=>23 | _=>999)
noncomputable def pgZR (kt:KT) (w:World) (x:LP) (g ad tk:Nat->Nat) (b:Bool) (y:PG):Rs2:=pgR kt w (pgLZ x w) g ad tk (pgL w.params b ad x y) 930 zo50
noncomputable def pgZX (P:Params) (b:Bool) (ad tk:Nat->Nat) (x:LP) (y:PG) (c:Code):Code×Option Obj×Option Obj×Option Obj×Option Obj×Option (Value×Option Addr×List Value×List (Option Value))×Option Obj×Option Obj×Option Obj:=(c,
 some (oFrame [ky P nTold (y.τ 0) (.str y.told (y.τ 1)),ky P nPage (y.τ 2) (.ref (ad 1)),ky P nSign (pgK b y tk) (.str (x.L.l.sl 10) (tk 0))] 3),some (oPage ad),some (pgDict P ad y),some (oList (y.ls++[.str (x.L.l.sl 19) (tk 49)]) (y.nl + 1)),some (.ref 206,some (ad 5),[],[]),some (oDict [ky P sSize (y.τ 15) (.int 0 (tk 57))] (y.v 1)),some (oSit y.told (y.τ 17) (Int.ofNat y.k + 1)),some (oTup [.str chNo (tk 3),.str (x.L.l.sl 10) (tk 0)]))
noncomputable abbrev oSlice:Obj:=⟨.type "slice",none,.fields #[.none,.none,.none],#[]⟩
noncomputable def rT (x:LP) (ad:Nat->Nat) (nv m:Nat):Obj:=oInst 206 (ad 5) (x.vs++[.ref (ad m)]) nv
noncomputable def pgZO (kt:KT) (w:World) (ad tk:Nat->Nat) (x:LP) (y:PG):List Prop:=[
 @Eq Nat (ad 4) (ad 4)∧@Eq Nat (ad 24) (ad 24)∧@Eq Nat (ad 23) (ad 23)∧¬ (4:Nat)=23∧oSlice=oSlice∧(Value.type sList:Value) = .type "list"∧(x.vs++[Value.ref (ad 8)]).length + 0≤sizeLine,
 @Eq Nat (ad 3) (ad 3)∧y.ls.length + 1≤sizeLine,
 @Eq Nat (ad 4) (ad 4)∧RegOk (pgLZ x w) ad 4 5 8 (rT x ad (y.nv + 1 + 1 + 1) 8) (oDict [ky w.params sSize (y.τ 15) (.int 0 (y.τ 16))] (y.v 1)) (oTup [.str chNo (tk 3),.str (x.L.l.sl 10) (tk 0)])∧x.L.l.sl 19=Txt.join ⟨⟨[]⟩⟩ x.tx,
 True,
 Txt.isspace (x.L.l.sl 18)=false,
 @Eq Nat (ad 4) (ad 4)∧RegOk (pgLZ x w) ad 4 5 8 (rT x ad (y.nv + 1 + 1 + 1) 8) (oDict [ky w.params sSize (y.τ 15) (.int 0 (y.τ 16))] (y.v 1)) (oTup [.str chNo (tk 3),.str (x.L.l.sl 10) (tk 0)])∧x.L.l.sl 18=Txt.join ⟨⟨[]⟩⟩ x.tx,
 True,
 @Eq Nat (ad 4) (ad 4)∧RegOk (pgLZ x w) ad 4 5 8 (rT x ad (y.nv + 1 + 1 + 1) 8) (oDict [ky w.params sSize (y.τ 15) (.int 0 (y.τ 16))] (y.v 1)) (oTup [.str chNo (tk 3),.str (x.L.l.sl 10) (tk 0)])∧Int.ofNat (x.L.l.tk 16 + 1)=(((x.tx.map (·.length)).sum:Nat):Int),
 iCmp 0 0 0=true,
 iCmp 1 (Int.ofNat (x.L.l.tk 16 + 1)) 0=true,
 @Eq Nat (ad 4) (ad 4)∧RegOk (pgLZ x w) ad 4 5 8 (rT x ad (y.nv + 1 + 1 + 1) 8) (oDict [ky w.params sSize (y.τ 15) (.int 0 (y.τ 16))] (y.v 1)) (oTup [.str chNo (tk 3),.str (x.L.l.sl 10) (tk 0)])∧Int.ofNat (x.L.l.tk 16 + 1)=(((x.tx.map (·.length)).sum:Nat):Int),
 @Eq Nat (ad 12) (ad 12)∧@Eq Nat (ad 20) (ad 20)∧(Value.type sTuple:Value) = .type (seqTy 0)∧(Value.type sTuple:Value) = .type (seqTy 0)∧(2:Nat)=2∧(∀ j,j<2->(vEq (([.str chSp (tk 13),.str chNo (tk 14)]:List Value).getD j .none) (([.str chSp (tk 27),.str chNo (tk 28)]:List Value).getD j .none)).isSome=true)∧seqRes 0 [.str chSp (tk 13),.str chNo (tk 14)] [.str chSp (tk 27),.str chNo (tk 28)]=false,
 @Eq Nat (ad 4) (ad 4)∧((x.vs++[Value.ref (ad 8)])++[Value.ref (ad 12)])=(x.vs++[Value.ref (ad 8)])++[Value.ref (ad 12)]∧(x.vs++[Value.ref (ad 8)]).length + 1≤sizeLine,
 True,
 iCmp 0 (Int.ofNat ((x.vs++[Value.ref (ad 8)])++[Value.ref (ad 12)]).length) 0=false,
 True,True,True,True,
 pgOk1 ad 4 (x.vs++[Value.ref (ad 8)]).length,
 iCmp 0 (x.L.l.il 12 - 20) 0=true,dGet kt w 211 (x.L.l.sl 10) (.int (x.L.l.il 12) (x.L.l.tk 12)),pgOk1 ad 4 x.vs.length,pgNext ad y (x.L.l.sl 10)]
noncomputable def adPT (ad:Nat->Nat):Nat->Nat
 | 0=>ad 0
 | 1=>ad 2
 | 2=>ad 1
 | 3=>ad 4
 | 4=>ad 6
 | 5=>ad 5
 | _=>ad 10
noncomputable def pgY0 (tk:Nat->Nat) (told:Str) (tt:Nat):PG where
 τ:=fun i=>match i with | 0=>tk 0 | 1=>tt | 2=>tk 29 | 5=>tk 11 | 6=>tk 2 | 7=>tk 13 | 8=>tk 3 | 9=>tk 17 | 10=>tk 15 | 11=>tk 19 | 12=>tk 4 | 13=>tk 21 | 14=>tk 28 | 15=>tk 25 | 16=>tk 1 | _=>tt
 told:=told
 k:=0
 ls:=[]
 nl:=0
 nv:=0
 sg:=chNo
 v:=fun i=>match i with | 0=>6 | _=>1
noncomputable abbrev PgT:=Code×Option Obj×Option Obj×Option Obj×Option Obj×Option (Value×Option Addr×List Value×List (Option Value))×Option Obj×Option Obj
noncomputable def pgAF (c:Code) (d:Nat) (T:BT) (_:Nat):Nat×PgT:=(d,c,T.get 0,T.get 2,T.get 1,T.get 4,seqI (T.get 6),T.get 5,T.get 10)
noncomputable def pgAX (P:Params) (ad:Nat->Nat) (y:PG) (c:Code):Nat×PgT:=(0,c,some (pgFr P false (adPT ad) y),some (oPage (adPT ad)),some (pgDict P (adPT ad) y),some (oList [] 0),some (.ref 206,some (ad 5),[],[]),some (oDict [ky P sSize (y.τ 15) (.int 0 (y.τ 16))] (y.v 1)),some (oSit y.told (y.τ 17) (Int.ofNat 0)))
noncomputable def tl31 (c:Nat->Nat):Str:=⟨⟨[c 0,c 1,c 2,c 3,c 4,c 5,c 6,c 7,c 8,c 9,c 10,c 11,c 12,c 13,c 14,c 15,c 16,c 17,c 18,c 19,c 20,c 21,c 22,c 23,c 24,c 25,c 26,c 27,c 28,c 29,c 30]⟩⟩
noncomputable def pgEnd (y:PG) (c:Nat->Nat):PG:={ y with told:=tl31 c,k:=31 }
noncomputable def pgOR (kt:KT) (w:World) (x:LP) (g ad tk:Nat->Nat) (y:PG) (c:Nat->Nat):Rs2:=pgR kt w (x.put w 7 (fun _=>999) (fun _=>999) (fun _=>999)) g ad tk (pgL w.params true ad x (pgEnd y c)) 25 0x90707070700070007
noncomputable def pgOF (r:Result) (T:BT) (_:Nat):Option Unit×Option Obj×Option Obj×Option Obj×Option Obj×Option (Value×Option Addr×List Value×List (Option Value))×Option Obj×Option Obj:=((match r with | .ok .next=>some () | _=>none),T.get 0,T.get 1,T.get 2,T.get 3,seqI (T.get 4),T.get 5,T.get 6)
noncomputable def pgOX (P:Params) (ad:Nat->Nat) (x:LP) (y:PG):Option Unit×Option Obj×Option Obj×Option Obj×Option Obj×Option (Value×Option Addr×List Value×List (Option Value))×Option Obj×Option Obj:=(some (),some (pgFr P true ad y),some (oPage ad),some (pgDict P ad y),some (oList y.ls y.nl),some (.ref 206,some (ad 5),x.vs,[]),some (oDict [ky P sSize (y.τ 15) (.int 0 (y.τ 16))] (y.v 1)),some ⟨.type "str_ascii_iterator",none,.fields ⟨[.none,.int 31 0]⟩,#[]⟩)
noncomputable abbrev oDone:Obj:=⟨.type "str_ascii_iterator",none,.fields ⟨[.none,.int 31 0]⟩,#[]⟩
noncomputable def pgCL (P:Params) (ad:Nat->Nat) (vs:List Value) (y:PG) (l:List Obj):List Obj:=[pgFr P true ad y,oPage ad,pgDict P ad y,oList y.ls y.nl,oInst 206 (ad 5) vs y.nv,oDict [ky P sSize (y.τ 15) (.int 0 (y.τ 16))] (y.v 1),oDone]++l
noncomputable def pgLa (x:LP) (w:World):LP:=(x.nz 14 15).put w 8 (fun q=>match q with | 10=>4 | 11=>7 | 12=>19 | 13=>4 | 14=>4 | 15=>4 | 16=>4 | 17=>4 | 18=>3 | 19=>4 | _=>3) (fun q=>match q with | 10=>7 | 11=>17 | 12=>7 | 14=>5 | 15=>5 | 16=>5 | 17=>5 | 19=>25 | 20=>999 | _=>999) (fun q=>match q with | 10=>999 | 11=>1 | 14=>21 | 15=>21 | 16=>21 | 17=>21 | 19=>24 | 20=>999 | _=>999)
noncomputable def pgLb (x:LP) (w:World):LP:={ (x.put w 7 (fun q=>match q with | 10=>14 | 11=>17 | 12=>4 | 13=>4 | 14=>4 | _=>3) (fun q=>match q with | 10=>15 | 11=>14 | 13=>5 | 14=>22 | 15=>999 | _=>999) (fun q=>match q with | 10=>1 | 13=>19 | 14=>21 | 15=>999 | _=>999)) with vs:=[],ds:=[],y:=⟨⟨[]⟩⟩ }
noncomputable def pgCa (kt:KT) (w:World) (x:LP) (g:Nat->Nat) (it:Nat) (tkA:Nat->Nat) (told:Str) (tt:Nat) (ad tk:Nat->Nat) (y:PG) (t u:Nat):Rs2 :=
 run2 (mkP (pgLa x w) kt w) ad tk 860 false (pgRunA kt w (adS (ad 0) it g) tkA told tt).sc ((pgRunA kt w (adS (ad 0) it g) tkA told tt).sk (.ok .next)) (pgRunA kt w (adS (ad 0) it g) tkA told tt).sκ (pgRunA kt w (adS (ad 0) it g) tkA told tt).sd (bt (pgCL w.params ad (x.vs++[.ref (ad 7)]) y [oTup [.str chNo t,.str y.sg u]])) 8 0 zo51 [] [] []
noncomputable def pgCb (kt:KT) (w:World) (x:LP) (g:Nat->Nat) (it:Nat) (tkA:Nat->Nat) (told:Str) (tt:Nat) (ad tk:Nat->Nat) (y:PG):Rs2 :=
 run2 (mkP (pgLb x w) kt w) ad tk 600 false (pgRunA kt w (adS (ad 0) it g) tkA told tt).sc ((pgRunA kt w (adS (ad 0) it g) tkA told tt).sk (.ok .next)) (pgRunA kt w (adS (ad 0) it g) tkA told tt).sκ (pgRunA kt w (adS (ad 0) it g) tkA told tt).sd (bt (pgCL w.params ad [] y [])) 7 0 zo52 [] [] []
noncomputable def pgCF (c:Code) (d:Nat) (_:BT) (_:Nat):Nat×Option (String×Str×Str):=(d,spOf c)
noncomputable def opSet (ad:Nat->Nat) (c b:Nat) (xs:List Value):Prop:=@Eq Nat (ad 4) (ad 4)∧@Eq Nat (ad c) (ad c)∧@Eq Nat (ad b) (ad b)∧¬ (4:Nat)=b∧oSlice=oSlice∧(Value.type sList:Value) = .type "list"∧xs.length + 0≤sizeLine
noncomputable def opReg (x z:LP) (w:World) (ad:Nat->Nat) (y:PG) (m:Nat) (o ot:Obj) (p:Prop):Prop:=@Eq Nat (ad 4) (ad 4)∧RegOk z ad 4 5 m o (oDict [ky w.params sSize (y.τ 15) (.int 0 (y.τ 16))] (y.v 1)) ot∧p
noncomputable def opTup (ad:Nat->Nat) (a b:Nat) (x y:List Value) (r:Bool):Prop:=@Eq Nat (ad a) (ad a)∧@Eq Nat (ad b) (ad b)∧(Value.type sTuple:Value) = .type (seqTy 0)∧(Value.type sTuple:Value) = .type (seqTy 0)∧(2:Nat)=2∧(∀ j,j<2->(vEq (x.getD j .none) (y.getD j .none)).isSome=true)∧seqRes 0 x y=r
noncomputable def opIadd (ad:Nat->Nat) (a b:Nat) (x:List Value):Prop:=@Eq Nat (ad a) (ad a)∧@Eq Nat (ad b) (ad b)∧oList [] 0=oList [] 0∧oTup x=oTup x∧0 + 2≤sizeLine
noncomputable def opJoin (ad:Nat->Nat) (ls:List Value) (x:LP) (z:Str):Prop:=@Eq Nat (ad 3) (ad 3)∧(Value.type sList:Value) = .type "list"∧StrsAre ls x.jt∧(x.jt.map (·.length)).sum + x.jt.length * chNl.length≤16777216∧z=Txt.join chNl x.jt
noncomputable def pgCaO (w:World) (ad tk:Nat->Nat) (x:LP) (y:PG) (t u:Nat):List Prop:=[
 opJoin ad (y.ls++[.str (x.L.l.sl 17) (tk 39)]) x (x.L.l.sl 20),
 opSet ad 25 24 ((x.vs++[])++[Value.ref (ad 21)]),
 pgOk1 ad 3 y.ls.length,
 opReg x (pgLa x w) w ad y 21 (oInst 206 (ad 5) ((x.vs++[])++[Value.ref (ad 21)]) (y.nv + 1 + 1)) (oTup [.str chNo t,.str y.sg u]) (x.L.l.sl 17=Txt.join ⟨⟨[]⟩⟩ x.tx),
 True,
 Txt.isspace (x.L.l.sl 16)=false,
 opReg x (pgLa x w) w ad y 21 (oInst 206 (ad 5) ((x.vs++[])++[Value.ref (ad 21)]) (y.nv + 1 + 1)) (oTup [.str chNo t,.str y.sg u]) (x.L.l.sl 16=Txt.join ⟨⟨[]⟩⟩ x.tx),
 True,
 opReg x (pgLa x w) w ad y 21 (oInst 206 (ad 5) ((x.vs++[])++[Value.ref (ad 21)]) (y.nv + 1 + 1)) (oTup [.str chNo t,.str y.sg u]) (Int.ofNat (x.L.l.tk 14 + 1)=(((x.tx.map (·.length)).sum:Nat):Int)),
 iCmp 0 0 0=true,
 iCmp 1 (Int.ofNat (x.L.l.tk 14 + 1)) 0=true,
 opReg x (pgLa x w) w ad y 21 (oInst 206 (ad 5) ((x.vs++[])++[Value.ref (ad 21)]) (y.nv + 1 + 1)) (oTup [.str chNo t,.str y.sg u]) (Int.ofNat (x.L.l.tk 14 + 1)=(((x.tx.map (·.length)).sum:Nat):Int)),
 pgOk1 ad 4 (x.vs++([]:List Value)).length,
 opIadd ad 19 7 [.str chNo t,.str y.sg u],
 opTup ad 7 17 [.str chNo t,.str y.sg u] [.str chSp (tk 12),.str chNo (tk 13)] true,
 @Eq Nat (ad 4) (ad 4)∧x.vs++[Value.ref (ad 7)]=(x.vs++[])++[Value.ref (ad 7)]∧(x.vs++([]:List Value)).length + 1≤sizeLine,
 True,
 iCmp 0 (Int.ofNat (x.vs++[Value.ref (ad 7)]).length) 0=false,
 True,True,True,True,True]
noncomputable def pgCbO (w:World) (ad tk:Nat->Nat) (x:LP) (y:PG):List Prop:=[
 opJoin ad y.ls x (x.L.l.sl 15),
 opSet ad 22 21 [Value.ref (ad 19)],
 iCmp 1 (x.L.l.il 13) 0=false,
 opReg x (pgLb x w) w ad y 19 (oInst 206 (ad 5) [Value.ref (ad 19)] (y.nv + 1)) (oTup [.str chNo (tk 10),.str chNo (tk 11)]) (x.L.l.il 13=0),
 pgOk1 ad 4 0,
 opIadd ad 17 14 [.str chNo (tk 10),.str chNo (tk 11)],
 opTup ad 14 15 [.str chNo (tk 10),.str chNo (tk 11)] [.str chSp (tk 13),.str chNo (tk 14)] true,
 iCmp 0 0 0=true,
 True,True,True,True,True]
noncomputable def pgTail (kt:KT) (w:World) (x:LP) (ad tk:Nat->Nat) (rs:Rs2) (v:Value):Rs2:=run2 (mkP x kt w) ad tk 30 false rs.sc (rs.sk (.ok (.ret v))) rs.sκ rs.sd (bt []) 0 0 0 [] [] []
noncomputable def valOf2 (r:Result) (_:BT) (_:Nat):Option Value:=match r with
 | .ok (.ret v)=>some v
 | _=>none
structure PageK (kt:Params->KT):Prop where
 def_:∀ P,(defAt (kt P) 258).isSome=true
 plain:∀ (w:World) g fr it,callerF (PC (kt w.params) w g fr it)=false
 begin_:∀ (w:World) ad tk told tt,(pgRunA (kt w.params) w ad tk told tt).stq pgAF=some (pgAX w.params ad (pgY0 tk told tt) (PC (kt w.params) w ad (ad 0) (ad 10)),[told.cps.all (·<128)=true,True,True,True],(pgRunA (kt w.params) w ad tk told tt).l1,(pgRunA (kt w.params) w ad tk told tt).l1,(pgRunA (kt w.params) w ad tk told tt).s1,(pgRunA (kt w.params) w ad tk told tt).s1)
 out:∀ (w:World) x g ad tk y c,(pgOR (kt w.params) w x g ad tk y c).dn pgOF=some (pgOX w.params ad x (pgEnd y c),[],(pgOR (kt w.params) w x g ad tk y c).l1,(pgOR (kt w.params) w x g ad tk y c).l1,(pgOR (kt w.params) w x g ad tk y c).s1,(pgOR (kt w.params) w x g ad tk y c).s1)
 lastA:∀ (w:World) x g it tkA told tt ad tk y t u,(pgCa (kt w.params) w x g it tkA told tt ad tk y t u).stq pgCF=some ((0,some ("str.split",x.L.l.sl 20,chNl)),pgCaO w ad tk x y t u,(pgCa (kt w.params) w x g it tkA told tt ad tk y t u).l1,(pgCa (kt w.params) w x g it tkA told tt ad tk y t u).l1,(pgCa (kt w.params) w x g it tkA told tt ad tk y t u).s1,(pgCa (kt w.params) w x g it tkA told tt ad tk y t u).s1)
 lastB:∀ (w:World) x g it tkA told tt ad tk y,(pgCb (kt w.params) w x g it tkA told tt ad tk y).stq pgCF=some ((0,some ("str.split",x.L.l.sl 15,chNl)),pgCbO w ad tk x y,(pgCb (kt w.params) w x g it tkA told tt ad tk y).l1,(pgCb (kt w.params) w x g it tkA told tt ad tk y).l1,(pgCb (kt w.params) w x g it tkA told tt ad tk y).s1,(pgCb (kt w.params) w x g it tkA told tt ad tk y).s1)
 turn:∀ (w:World) x g ad tk b y,(pgNR (kt w.params) w x g ad tk b y).agn pgF=some (pgNX w.params b ad tk x y (PC (kt w.params) w g (ad 0) (ad 6)),pgNO (kt w.params) w ad x y,(pgNR (kt w.params) w x g ad tk b y).l1,(pgNR (kt w.params) w x g ad tk b y).l1,(pgNR (kt w.params) w x g ad tk b y).s1,(pgNR (kt w.params) w x g ad tk b y).s1)
 nought:∀ (w:World) x g ad tk b y,(pgZR (kt w.params) w x g ad tk b y).agn pgF=some (pgZX w.params b ad tk x y (PC (kt w.params) w g (ad 0) (ad 6)),pgZO (kt w.params) w ad tk x y,(pgZR (kt w.params) w x g ad tk b y).l1,(pgZR (kt w.params) w x g ad tk b y).l1,(pgZR (kt w.params) w x g ad tk b y).s1,(pgZR (kt w.params) w x g ad tk b y).s1)
 tailA:∀ (w:World) x g it tkA told tt ad tk y t u x0 ad2 tk2 v,(pgTail (kt w.params) w x0 ad2 tk2 (pgCa (kt w.params) w x g it tkA told tt ad tk y t u) (.ref v)).dn valOf2=some (some (.ref v),[],(pgTail (kt w.params) w x0 ad2 tk2 (pgCa (kt w.params) w x g it tkA told tt ad tk y t u) (.ref v)).l1,(pgTail (kt w.params) w x0 ad2 tk2 (pgCa (kt w.params) w x g it tkA told tt ad tk y t u) (.ref v)).l1,(pgTail (kt w.params) w x0 ad2 tk2 (pgCa (kt w.params) w x g it tkA told tt ad tk y t u) (.ref v)).s1,(pgTail (kt w.params) w x0 ad2 tk2 (pgCa (kt w.params) w x g it tkA told tt ad tk y t u) (.ref v)).s1)
 tailB:∀ (w:World) x g it tkA told tt ad tk y x0 ad2 tk2 v,(pgTail (kt w.params) w x0 ad2 tk2 (pgCb (kt w.params) w x g it tkA told tt ad tk y) (.ref v)).dn valOf2=some (some (.ref v),[],(pgTail (kt w.params) w x0 ad2 tk2 (pgCb (kt w.params) w x g it tkA told tt ad tk y) (.ref v)).l1,(pgTail (kt w.params) w x0 ad2 tk2 (pgCb (kt w.params) w x g it tkA told tt ad tk y) (.ref v)).l1,(pgTail (kt w.params) w x0 ad2 tk2 (pgCb (kt w.params) w x g it tkA told tt ad tk y) (.ref v)).s1,(pgTail (kt w.params) w x0 ad2 tk2 (pgCb (kt w.params) w x g it tkA told tt ad tk y) (.ref v)).s1)
section
variable [Bs]
noncomputable abbrev q7 (q:Nat->Nat):List Nat:=[q 0,q 1,q 2,q 3,q 4,q 5,q 6]
structure PSt (P:Params) (N n0:Nat) (h:Heap) (q:Nat->Nat) (later:Bool) (told:List Int) (k:Nat) (rows:List (List Int)) (cur:List Int) (y:PG) (vs:List Value) (Ts:Nat->Nat):Prop where
 nodup:(q7 q).Nodup
 off:∀ a∈q7 q,n0≤a
 objs:(q7 q).map h.get? = [pgFr P later q y,oPage q,pgDict P q y,oList y.ls y.nl,oInst 206 (q 5) vs y.nv,oDict [ky P sSize (y.τ 15) (.int 0 (y.τ 16))] (y.v 1),oSit y.told (y.τ 17) (Int.ofNat y.k)].map some
 told_:y.told=tx told
 k_:y.k=k
 lines:StrsAre y.ls (rows.map tx)
 len:vs.length=cur.length
 pool:∀ j,j<vs.length->vs[j]? = some (.ref (Ts j))∧(∃ t u,h.get? (Ts j)=some (oTup [.str chNo t,.str (tx [cur.getD j 0]) u]))∧n0≤Ts j∧∀ i,i<7->@Ne Nat (q i) (Ts j)
 sgl:∀ d,cur.getLast? = some d->y.sg=tx [d]
 inj:∀ i j,i<vs.length->j<vs.length->@Eq Nat (Ts i) (Ts j)->i=j
section
variable {kt:Params->KT} {w:World} {A:Around} {R:Result->Shared->Prop} {N n0:Nat} {q:Nat->Nat} {told:List Int} {k:Nat} {rows:List (List Int)} {cur:List Int}
structure CxP (kt:Params->KT) (w:World) (N:Nat) (A:Around) (s:Shared):Prop where
 top:TopOk (kt w.params) N
 hA:A.handled=none
 hd:A.depth + 320<recursionLimit
 hu:A.units + 300<cLine
 base:(kt w.params).Holds s.heap 1 0
 hN:N≤s.heap.objs.size
 inv:Cas s.gens s.heap
theorem CxP.cx2 {s:Shared} (C:CxP kt w N A s) (K:GenK kt) (L:LenK kt) {x:LP} (hP:x.P=w.params) (hN:x.N=N) (h0:x.h0=s.heap):Cx2 w (mkP x (kt w.params) w) A N Cas x.m0 s where
 hst:=rfl
 hA:=C.hA
 hd:=by have:=C.hd; exact om196 this
 hu:=C.hu
 hsp:=spP_ok
 hct:=by
  subst hN
  rw [← h0]
  exact ctP_ok K L C.top hP (by have:=C.hd; exact om197 this)
 hcg:=ctP_cong
 lim:=C.top.lim
 hN:=C.hN
 base:=C.base
 top:=C.top.top
 inv:=C.inv
 stb:=Cas_stb C.top
noncomputable def pgLt (d:Int) (tk:Nat) (z:Str) (nz:Nat):Lt where
 fl:=fun _=>0
 il:=fun _=>20 + d
 tk:=fun q=>match q with | 12=>tk | _=>nz
 sl:=fun q=>match q with | 10=>tx [d] | _=>z
noncomputable def pgX (P:Params) (s:Shared) (N:Nat) (vs:List Value) (Ts:Nat->Nat) (cur:List Int) (d:Int) (tk:Nat) (z:Str) (nz:Nat):LP:=⟨⟨pgLt d tk z nz,fun _=>0,fun _=>0,fun _=>0,fun _=>[]⟩,P,s.heap,N,7,vs,Ts,cur,tx [d],[]⟩
theorem seqI_some {o:Option Obj} {c:Value} {d:Option Addr} {l:List Value} (h:seqI o=some (c,d,l,[])):∃ n,o=some ⟨c,d,.seq ⟨l⟩ n,#[]⟩:=by
 unfold seqI at h
 split at h
 · rename_i c' d' a n sl
   simp only [Option.some.injEq,Prod.mk.injEq] at h
   obtain ⟨rfl,rfl,h3,h4⟩:=h
   obtain ⟨a⟩:=a
   obtain ⟨sl⟩:=sl
   obtain rfl:a=l:=h3
   obtain rfl:sl=[]:=h4
   exact ⟨n,rfl⟩
 · cases h
theorem next_as2 {kt:KT} {I:Heap->Prop} {ad:Nat->Nat} {h₀ h:Heap} {m₀:Nat} {T:BT} {m:Nat} (D:Rep2 kt N I ad h₀ m₀ h T m) (js:List Nat) (os:List Obj) (e:js.map T.get=os.map some) (hn:js.Nodup):(js.map ad).Nodup∧(js.map ad).map h.get? = os.map some:=by
 have hat:∀ j∈js,∃ x,T.get j=some x:=fun j hj=>by
  obtain ⟨i,hi,rfl⟩:=List.mem_iff_getElem.mp hj
  have z:=congrArg (fun l:List (Option Obj)=>l[i]?) e
  simp only [List.getElem?_map,List.getElem?_eq_getElem hi,Option.map_some] at z
  cases q:os[i]? with
  | none=>rw [q] at z; cases z
  | some y=>rw [q] at z; simp only [Option.map_some,Option.some.injEq] at z; exact ⟨y,z⟩
 refine ⟨?_,?_⟩
 · rw [List.nodup_iff_pairwise_ne] at hn ⊢
   rw [List.pairwise_map]
   refine hn.imp_of_mem fun {a b} ha hb hab q=>hab ?_
   obtain ⟨x,hx⟩:=hat a ha
   obtain ⟨y,hy⟩:=hat b hb
   exact D.inj a b (D.own a x hx).1 (D.own b y hy).1 q
 · rw [← e,List.map_map]
   refine List.map_congr_left fun j hj=>?_
   obtain ⟨x,hx⟩:=hat j hj
   show h.get? (ad j)=T.get j
   rw [hx]
   exact (D.own j x hx).2
theorem keep_out {kt:KT} {I:Heap->Prop} {f:Nat->Nat} {h₀ h:Heap} {T:BT} {m:Nat} {as:List Nat} (D:Rep2 kt N I (adJ as f) h₀ as.length h T m) {a:Nat} {o:Obj} (ha:N≤a) (e:h₀.get? a=some o) (hn:a ∉ as):h.get? a=some o:=by
 refine D.keep a o ha e fun j hj=>?_
 by_cases q:j<as.length
 · unfold adJ
   rw [if_pos q,List.getD_eq_getElem?_getD,List.getElem?_eq_getElem q]
   exact fun e=>hn (e ▸ List.getElem_mem q)
 · have h1:=D.new j (by exact om8 q) hj
   have h2:=Heap.lt_size e
   exact fun q=>by rw [q] at h1; exact absurd h2 (Nat.not_lt.mpr h1)
theorem q7_mem {q:Nat->Nat} {a:Nat}:a∈q7 q ↔ ∃ i,i<7∧q i=a:=by
 show a∈(List.range 7).map q ↔ _
 rw [List.mem_map]
 exact ⟨fun ⟨i,hi,e⟩=>⟨i,List.mem_range.mp hi,e⟩,fun ⟨i,hi,e⟩=>⟨i,List.mem_range.mpr hi,e⟩⟩
theorem plainP (K:PageK kt) {g:Nat->Nat} {fr it:Nat}:(PC (kt w.params) w g fr it).isCaller=false:=by
 rw [show (PC (kt w.params) w g fr it).isCaller=callerF (PC (kt w.params) w g fr it) from congrFun callerF_eq _]
 exact K.plain w g fr it
noncomputable def KeepsIn (N n0:Nat) (h h':Heap):Prop:=∀ (b:Nat) o,N≤b->b<n0->h.get? b=some o->h'.get? b=some o
theorem turnN_c (K:GenK kt) (L:LenK kt) (KP:PageK kt) {g:Nat->Nat} (ht:Tab (kt w.params) w) {s:Shared} (C:CxP kt w N A s) (hn0:N≤n0) (hn1:n0≤s.heap.objs.size) {later:Bool} {y:PG} {vs:List Value} {Ts:Nat->Nat} (St:PSt w.params N n0 s.heap q later told k rows cur y vs Ts)
 {d:Int} (hd:told[k]? = some d) (h0:0≤d) (h5:d<5) (hz:d ≠ 0) (hsz:cur.length + 3<1000)
 (hR:∀ h' G' t' y' vs' Ts',PSt w.params N n0 h' q true told (k + 1) rows (cur++[d]) y' vs' Ts'->KeepsIn N n0 s.heap h'->(kt w.params).Holds h' 1 0->Cas G' h'->s.heap.objs.size≤h'.objs.size->codeAny (model thePw w) A (PC (kt w.params) w g (q 0) (q 6)) R ⟨h',G',s.drawn,t',s.os⟩) :
 codeAny (model thePw w) A (PC (kt w.params) w g (q 0) (q 6)) R s:=by
 obtain ⟨tk,htk⟩:=ht d h0 h5
 let x:=pgX w.params s N vs Ts cur d tk chNo 0
 refine code_of ?_
 have e:=fun f tk'=>KP.turn w x g (adJ (q7 q) f) tk' later y
 have sl:vs.length + 1≤sizeLine:=by
  have:=St.len
  unfold sizeLine
  exact om198 hsz this
 refine seg2_agn (E:=mkP (pgLN x w) (kt w.params) w) (I:=Cas) (q7 q) _ (C.cx2 (x:=pgLN x w) K L rfl rfl rfl) St.nodup St.objs (fun a ha=>Nat.le_trans hn0 (St.off a ha)) trivial (plainP KP) (Nat.le_zero.mpr rfl) (Nat.zero_le _) pgF (fun ad tk'=>pgNX w.params later ad tk' x y (PC (kt w.params) w g (ad 0) (ad 6))) (fun ad _=>pgNO (kt w.params) w ad x y) e ?_ ?_
 · intro f tk' p hp
   simp only [pgNO,List.mem_cons,List.not_mem_nil,or_false] at hp
   rcases hp with rfl | rfl | rfl | rfl
   · show iCmp 0 (20 + d - 20) 0=false
     show ((20 + d - 20:Int) == 0)=false
     have:(20 + d - 20:Int)=d:=by exact om167
     rw [this]
     simpa using hz
   · exact htk
   · exact ⟨rfl,sl⟩
   · refine ⟨rfl,y.k,sg d,rfl,?_,rfl⟩
     rw [St.told_,St.k_]
     show ((told.map sg).toArray)[k]? = some (sg d)
     simp [hd]
 · intro h' G' t' f tk' c' T' m' eF D
   unfold pgF pgNX at eF
   simp only [Prod.mk.injEq] at eF
   obtain ⟨ec,e0,e1,e2,e3,e4,e5,e6,e8⟩:=eF
   obtain ⟨nv,e4⟩:=seqI_some e4
   have z:=next_as2 D [0,1,2,3,4,5,6] _ (show _=List.map some [_,_,_,_,_,_,_] by
    simp only [List.map_cons,List.map_nil]
    rw [e0,e1,e2,e3,e4,e5,e6]) (by decide)
   have ads:[0,1,2,3,4,5,6].map (adJ (q7 q) f)=q7 q:=rfl
   rw [ads] at z
   have a8:adJ (q7 q) f 8=f 8:=rfl
   have pn:=D.new 8 (show 7≤8 by decide) (D.own 8 _ e8).1
   have hk7:∀ i,i<7->adJ (q7 q) f i=q i:=fun i hi=>by
    match i,hi with
    | 0,_ | 1,_ | 2,_ | 3,_ | 4,_ | 5,_ | 6,_=>rfl
   have hm7:∀ i,i<7->i<m':=fun i hi=>Nat.lt_of_lt_of_le hi D.le
   rw [ec]
   refine hR h' G' t' { y with
    τ:=fun i=>match i with | 3=>pgK later y tk' | 4=>tk' 0 | i=>y.τ i
    k:=y.k + 1
    sg:=tx [d]
    nv:=nv } (vs++[.ref (f 8)]) (fun j=>if j<vs.length then Ts j else f 8) ⟨z.1,St.off,?_,St.told_,by show y.k + 1=k + 1; rw [St.k_],St.lines,by rw [List.length_append,List.length_append,St.len]; rfl,?_,?_,?_⟩ ?_ D.base D.inv D.size
   · rw [z.2]
     rfl
   · intro j hj
     rw [List.length_append,List.length_singleton] at hj
     by_cases hlt:j<vs.length
     · obtain ⟨p1,⟨t,u,p2⟩,p3,p4⟩:=St.pool j hlt
       simp only [if_pos hlt]
       refine ⟨by rw [List.getElem?_append_left hlt]; exact p1,⟨t,u,?_⟩,p3,p4⟩
       have e:(cur++[d]).getD j 0=cur.getD j 0:=by
        rw [List.getD_eq_getElem?_getD,List.getD_eq_getElem?_getD,List.getElem?_append_left (by rw [← St.len]; exact hlt)]
       rw [e]
       exact keep_out D (Nat.le_trans hn0 p3) p2 fun hm=>by
        obtain ⟨i,hi,hq⟩:=q7_mem.mp hm
        exact p4 i hi hq
     · have:j=vs.length:=by exact om10 hj hlt
       subst this
       simp only [if_neg hlt]
       refine ⟨by simp,⟨tk' 3,tk' 0,?_⟩,Nat.le_trans hn1 pn,fun i hi q'=>?_⟩
       · have e:(cur++[d]).getD vs.length 0=d:=by
          rw [St.len]
          simp
         rw [e]
         exact (D.own 8 _ e8).2
       · have:=D.inj i 8 (hm7 i hi) (D.own 8 _ e8).1 (by rw [hk7 i hi]; exact q')
         exact om199 hi this
   · intro d' e
     rw [List.getLast?_append,List.getLast?_singleton,Option.some_or] at e
     rw [Option.some.inj e]
   · intro i j hi hj e
     rw [List.length_append,List.length_singleton] at hi hj
     have lt:∀ j,j<vs.length->Ts j<s.heap.objs.size:=fun j hj=>by
      obtain ⟨_,⟨t,u,p2⟩,_,_⟩:=St.pool j hj
      exact Heap.lt_size p2
     have pn':s.heap.objs.size≤f 8:=pn
     by_cases h1:i<vs.length
     · by_cases h2:j<vs.length
       · simp only [if_pos h1,if_pos h2] at e
         exact St.inj i j h1 h2 e
       · simp only [if_pos h1,if_neg h2] at e
         have:=lt i h1
         rw [e] at this
         exact absurd this (Nat.not_lt.mpr pn')
     · by_cases h2:j<vs.length
       · simp only [if_neg h1,if_pos h2] at e
         have:=lt j h2
         rw [← e] at this
         exact absurd this (Nat.not_lt.mpr pn')
       · exact om200 hi hj h1 h2
   · intro b o hb hb2 eb
     refine keep_out D hb eb fun hm=>?_
     have:=St.off b hm
     exact om32 hb2 this
theorem strsAre_snoc {l:List Value} {ss:List Str} (h:StrsAre l ss) (z:Str) (t:Tok):StrsAre (l++[.str z t]) (ss++[z]):=by
 induction h with
 | nil=>exact .cons z t .nil
 | cons y u r ih=>exact .cons y u ih
theorem txs_join (l:List Int):Txt.join ⟨⟨[]⟩⟩ (l.map fun d=>tx [d])=tx l:=by
 rw [joinAll]
 show (⟨_⟩:Str)=⟨(l.map sg).toArray⟩
 congr 1
 congr 1
 induction l with
 | nil=>rfl
 | cons a l ih =>
  rw [List.map_cons,List.map_cons,List.flatten_cons,ih]
  rfl
theorem pgX_tx {P:Params} {s:Shared} {vs:List Value} {Ts:Nat->Nat} {d:Int} {tk nz:Nat} {z:Str}:(pgX P s N vs Ts cur d tk z nz).tx=(cur++[d]).map fun d=>tx [d]:=by
 show (cur.map fun d=>tx [d])++[tx [d]]=_
 rw [List.map_append]
 rfl
theorem sum_one (l:List Int):((l.map fun d=>tx [d]).map (·.length)).sum=l.length:=by
 induction l with
 | nil=>rfl
 | cons a l ih =>
  rw [List.map_cons,List.map_cons,List.sum_cons,ih,List.length_cons]
  show 1 + l.length=_
  exact om6
theorem nospace {l:List Int}:Txt.isspace (tx (l++[0]))=false:=by
 unfold Txt.isspace
 have:(tx (l++[0])).cps.all Unicode.isSpace=false:=by
  show ((l++[0]).map sg).toArray.all Unicode.isSpace=false
  rw [List.all_toArray,List.map_append,List.all_append]
  have:([0]:List Int).map sg=[60]:=rfl
  rw [this]
  have:([60]:List Nat).all Unicode.isSpace=false:=by decide +kernel
  rw [this,Bool.and_false]
 rw [this,Bool.and_false]
theorem iCmp_pos (n:Nat):iCmp 1 (Int.ofNat (n + 1)) 0=true:=by
 show decide (Int.ofNat (n + 1) > 0)=true
 exact decide_eq_true (by show (0:Int)<Int.ofNat (n + 1); exact Int.ofNat_lt.mpr (Nat.succ_pos n))
theorem turnZ_c (K:GenK kt) (L:LenK kt) (KP:PageK kt) {g:Nat->Nat} (ht:Tab (kt w.params) w) {s:Shared} (C:CxP kt w N A s) (hn0:N≤n0) (hn1:n0≤s.heap.objs.size) {later:Bool} {y:PG} {vs:List Value} {Ts:Nat->Nat} (St:PSt w.params N n0 s.heap q later told k rows cur y vs Ts)
 (hd:told[k]? = some 0) (hsz:cur.length + 3<900) (hrz:rows.length<900)
 (hR:∀ h' G' t' y' Ts',PSt w.params N n0 h' q true told (k + 1) (rows++[cur++[0]]) [] y' [] Ts'->KeepsIn N n0 s.heap h'->(kt w.params).Holds h' 1 0->Cas G' h'->s.heap.objs.size≤h'.objs.size->codeAny (model thePw w) A (PC (kt w.params) w g (q 0) (q 6)) R ⟨h',G',s.drawn,t',s.os⟩) :
 codeAny (model thePw w) A (PC (kt w.params) w g (q 0) (q 6)) R s:=by
 obtain ⟨tk,htk⟩:=ht 0 (by decide) (by decide)
 let x:=pgX w.params s N vs Ts cur 0 tk (tx (cur++[0])) cur.length
 refine code_of ?_
 have e:=fun f tk'=>KP.nought w x g (adJ (q7 q) f) tk' later y
 have sl:vs.length + 3≤sizeLine:=by
  have:=St.len
  unfold sizeLine
  exact om201 hsz this
 have ll:y.ls.length + 1≤sizeLine:=by
  have h1:y.ls.length=(rows.map tx).length:=StrsAre.len_eq St.lines
  rw [h1,List.length_map]
  unfold sizeLine
  exact om202 hrz
 have hk7:∀ f i,i<7->adJ (q7 q) f i=q i:=fun f i hi=>by
  match i,hi with
  | 0,_ | 1,_ | 2,_ | 3,_ | 4,_ | 5,_ | 6,_=>rfl
 have hreg:∀ (f tk':Nat->Nat),RegOk (pgLZ x w) (adJ (q7 q) f) 4 5 8 (rT x (adJ (q7 q) f) (y.nv + 1 + 1 + 1) 8) (oDict [ky w.params sSize (y.τ 15) (.int 0 (y.τ 16))] (y.v 1)) (oTup [.str chNo (tk' 3),.str (x.L.l.sl 10) (tk' 0)]):=fun f tk'=>by
  refine ⟨⟨_,rfl⟩,⟨_,_,_,rfl⟩,⟨_,_,rfl⟩,⟨⟨St.len,by show vs.length + 1<1000; rw [St.len]; exact om203 hsz,fun j hj=>?_⟩,by show 1<1000; decide⟩,by decide⟩
  obtain ⟨p1,p2,p3,p4⟩:=St.pool j hj
  exact ⟨p1,p2,Nat.le_trans hn0 p3,fun i hi=>by rw [hk7 f i hi]; exact p4 i hi⟩
 have hjoin:tx (cur++[0])=Txt.join ⟨⟨[]⟩⟩ x.tx:=by
  rw [show x.tx=_ from pgX_tx,txs_join]
 have hsum:Int.ofNat (cur.length + 1)=(((x.tx.map (·.length)).sum:Nat):Int):=by
  rw [show x.tx=_ from pgX_tx,sum_one,List.length_append]
  rfl
 refine seg2_agn (E:=mkP (pgLZ x w) (kt w.params) w) (I:=Cas) (q7 q) _ (C.cx2 (x:=pgLZ x w) K L rfl rfl rfl) St.nodup St.objs (fun a ha=>Nat.le_trans hn0 (St.off a ha)) trivial (plainP KP) (Nat.le_zero.mpr rfl) (Nat.zero_le _) pgF (fun ad tk'=>pgZX w.params later ad tk' x y (PC (kt w.params) w g (ad 0) (ad 6))) (fun ad tk'=>pgZO (kt w.params) w ad tk' x y) e ?_ ?_
 · intro f tk' p hp
   unfold pgZO at hp
   revert p
   refine all_cons ?_ ?_
   · refine ⟨rfl,rfl,rfl,by decide,rfl,rfl,?_⟩
     rw [List.length_append]
     show vs.length + 1 + 0≤_
     exact om204 sl
   refine all_cons ?_ ?_
   · exact ⟨rfl,ll⟩
   refine all_cons ?_ ?_
   · exact ⟨rfl,hreg f tk',hjoin⟩
   refine all_cons ?_ ?_
   · trivial
   refine all_cons ?_ ?_
   · exact nospace
   refine all_cons ?_ ?_
   · exact ⟨rfl,hreg f tk',hjoin⟩
   refine all_cons ?_ ?_
   · trivial
   refine all_cons ?_ ?_
   · exact ⟨rfl,hreg f tk',hsum⟩
   refine all_cons ?_ ?_
   · rfl
   refine all_cons ?_ ?_
   · exact iCmp_pos _
   refine all_cons ?_ ?_
   · exact ⟨rfl,hreg f tk',hsum⟩
   refine all_cons ?_ ?_
   · refine ⟨rfl,rfl,rfl,rfl,rfl,fun j hj=>?_,rfl⟩
     match j,hj with
     | 0,_=>rfl
     | 1,_=>rfl
   refine all_cons ?_ ?_
   · refine ⟨rfl,rfl,?_⟩
     rw [List.length_append]
     show vs.length + 1 + 1≤_
     exact om205 sl
   refine all_cons ?_ ?_
   · trivial
   refine all_cons ?_ ?_
   · show (Int.ofNat _ == 0)=false
     rw [List.length_append]
     rfl
   refine all_cons ?_ ?_
   · trivial
   refine all_cons ?_ ?_
   · trivial
   refine all_cons ?_ ?_
   · trivial
   refine all_cons ?_ ?_
   · trivial
   refine all_cons ?_ ?_
   · refine ⟨rfl,?_⟩
     rw [List.length_append]
     show vs.length + 1 + 1≤_
     exact om205 sl
   refine all_cons ?_ ?_
   · rfl
   refine all_cons ?_ ?_
   · exact htk
   refine all_cons ?_ ?_
   · exact ⟨rfl,by show vs.length + 1≤_; exact om206 sl⟩
   refine all_cons ?_ ?_
   · refine ⟨rfl,y.k,sg 0,rfl,?_,rfl⟩
     rw [St.told_,St.k_]
     show ((told.map sg).toArray)[k]? = some (sg 0)
     simp [hd]
   exact all_nil
 · intro h' G' t' f tk' c' T' m' eF D
   unfold pgF pgZX at eF
   simp only [Prod.mk.injEq] at eF
   obtain ⟨ec,e0,e1,e2,e3,e4,e5,e6,e8⟩:=eF
   obtain ⟨nv,e4⟩:=seqI_some e4
   have z:=next_as2 D [0,1,2,3,4,5,6] _ (show _=List.map some [_,_,_,_,_,_,_] by
    simp only [List.map_cons,List.map_nil]
    rw [e0,e1,e2,e3,e4,e5,e6]) (by decide)
   have ads:[0,1,2,3,4,5,6].map (adJ (q7 q) f)=q7 q:=rfl
   rw [ads] at z
   rw [ec]
   refine hR h' G' t' { y with
    τ:=fun i=>match i with | 3=>pgK later y tk' | 4=>tk' 0 | 16=>tk' 57 | i=>y.τ i
    k:=y.k + 1
    sg:=tx [0]
    ls:=y.ls++[.str (tx (cur++[0])) (tk' 49)]
    nl:=y.nl + 1
    nv:=nv } (fun _=>0) ⟨z.1,St.off,?_,St.told_,by show y.k + 1=k + 1; rw [St.k_],?_,rfl,fun j hj=>absurd hj (Nat.not_lt_zero _),fun d e=>(by cases e),fun i j hi=>absurd hi (Nat.not_lt_zero _)⟩ ?_ D.base D.inv D.size
   · rw [z.2]
     rfl
   · rw [List.map_append]
     exact strsAre_snoc St.lines _ _
   · intro b o hb hb2 eb
     refine keep_out D hb eb fun hm=>?_
     have:=St.off b hm
     exact om32 hb2 this
end
end
theorem join_uniq (c:Nat):∀ (a b:List Str),a ≠ []->b ≠ []->(∀ z∈a,c ∉ z.cps.toList)->(∀ z∈b,c ∉ z.cps.toList)->(Str.join ⟨#[c]⟩ a).cps.toList=(Str.join ⟨#[c]⟩ b).cps.toList->a=b:=by
 have key:∀ (x y p q:List Nat),c ∉ x->c ∉ y->x++c::p=y++c::q->x=y∧p=q:=by
  intro x
  induction x with
  | nil =>
   intro y p q _ hy h
   cases y with
   | nil=>exact ⟨rfl,(List.cons.inj h).2⟩
   | cons u y=>exact absurd ((List.cons.inj h).1) (fun e=>hy (e ▸ List.mem_cons_self))
  | cons v x ih =>
   intro y p q hx hy h
   cases y with
   | nil=>exact absurd ((List.cons.inj h).1) (fun e=>hx (e ▸ List.mem_cons_self))
   | cons u y =>
    obtain ⟨h1,h2⟩:=List.cons.inj h
    obtain ⟨r1,r2⟩:=ih y p q (fun m=>hx (List.mem_cons_of_mem _ m)) (fun m=>hy (List.mem_cons_of_mem _ m)) h2
    exact ⟨by rw [h1,r1],r2⟩
 have ex:∀ {x y:Str},x.cps.toList=y.cps.toList->x=y:=fun h=>Str.ext' (Array.toList_inj.mp h)
 have app:∀ (x y:Str),(x++y).cps.toList=x.cps.toList++y.cps.toList:=fun x y=>Array.toList_append
 intro a
 induction a with
 | nil=>intro b h; exact absurd rfl h
 | cons x a ih =>
  intro b _ hb ha hbf h
  cases b with
  | nil=>exact absurd rfl hb
  | cons y b =>
   cases a with
   | nil =>
    cases b with
    | nil=>rw [ex (show x.cps.toList=y.cps.toList from h)]
    | cons z b =>
     refine absurd ?_ (ha x List.mem_cons_self)
     have h:x.cps.toList=_:=h
     rw [h]
     show c∈(y++⟨#[c]⟩++Str.join ⟨#[c]⟩ (z::b)).cps.toList
     rw [app,app]
     simp
   | cons z a =>
    cases b with
    | nil =>
     refine absurd ?_ (hbf y List.mem_cons_self)
     have h:_=y.cps.toList:=h
     rw [← h]
     show c∈(x++⟨#[c]⟩++Str.join ⟨#[c]⟩ (z::a)).cps.toList
     rw [app,app]
     simp
    | cons z' b =>
     have h:(x++⟨#[c]⟩++Str.join ⟨#[c]⟩ (z::a)).cps.toList=(y++⟨#[c]⟩++Str.join ⟨#[c]⟩ (z'::b)).cps.toList:=h
     rw [app,app,app,app,List.append_assoc,List.append_assoc] at h
     obtain ⟨r1,r2⟩:=key _ _ _ _ (ha x List.mem_cons_self) (hbf y List.mem_cons_self) h
     rw [ex r1,ih (z'::b) (List.cons_ne_nil _ _) (List.cons_ne_nil _ _) (fun u m=>ha u (List.mem_cons_of_mem _ m)) (fun u m=>hbf u (List.mem_cons_of_mem _ m)) r2]
theorem split_join (c:Nat) (l:List Str) (hne:l ≠ []) (free:∀ z∈l,c ∉ z.cps.toList):Txt.split (Txt.join ⟨#[c]⟩ l) ⟨#[c]⟩=l:=by
 have e:Txt.join ⟨#[c]⟩ l=Str.join ⟨#[c]⟩ l:=(StrLaws.glued_eq_join _ _)
 refine join_uniq c _ _ ?_ hne (StrLaws.split_free _ c) free ?_
 · intro h
   have:=split_pos (Txt.join ⟨#[c]⟩ l) ⟨#[c]⟩
   rw [h] at this
   exact absurd this (by decide)
 · rw [StrLaws.join_split,e]
section
variable [Bs]
noncomputable def lay (rc:List (List Int)×List Int) (d:Int):List (List Int)×List Int:=if d=0 then (rc.1++[rc.2++[0]],[]) else (rc.1,rc.2++[d])
theorem KeepsIn.trans {N n0:Nat} {a b c:Heap} (x:KeepsIn N n0 a b) (y:KeepsIn N n0 b c):KeepsIn N n0 a c:=fun i o h1 h2 e=>y i o h1 h2 (x i o h1 h2 e)
section
variable {kt:Params->KT} {w:World} {A:Around} {R:Result->Shared->Prop} {N n0:Nat} {q:Nat->Nat} {told:List Int}
theorem CxP.to {s s':Shared} (C:CxP kt w N A s) (b:(kt w.params).Holds s'.heap 1 0) (i:Cas s'.gens s'.heap) (hs:s.heap.objs.size≤s'.heap.objs.size):CxP kt w N A s' :=
 ⟨C.top,C.hA,C.hd,C.hu,b,Nat.le_trans C.hN hs,i⟩
theorem loopP (K:GenK kt) (L:LenK kt) (KP:PageK kt) {g:Nat->Nat} (ht:Tab (kt w.params) w) (h31:told.length=31) (hall:∀ d∈told,0≤d∧d<5) (hn0:N≤n0):∀ (rest:List Int) (k:Nat) (later:Bool) (rows:List (List Int)) (cur:List Int) (y:PG) (vs:List Value) (Ts:Nat->Nat) (s:Shared),
 told.drop k=rest->CxP kt w N A s->n0≤s.heap.objs.size->PSt w.params N n0 s.heap q later told k rows cur y vs Ts->(rest=[]->later=true)->rows.length + cur.length≤k->k≤31 →
 (∀ h' G' t' y' vs' Ts',PSt w.params N n0 h' q true told 31 (rest.foldl lay (rows,cur)).1 (rest.foldl lay (rows,cur)).2 y' vs' Ts'->KeepsIn N n0 s.heap h'->(kt w.params).Holds h' 1 0->Cas G' h'->s.heap.objs.size≤h'.objs.size->codeAny (model thePw w) A (PC (kt w.params) w g (q 0) (q 6)) R ⟨h',G',s.drawn,t',s.os⟩) →
 codeAny (model thePw w) A (PC (kt w.params) w g (q 0) (q 6)) R s:=by
 intro rest
 induction rest with
 | nil =>
  intro k later rows cur y vs Ts s hk C hn1 St hl hb hk31 hR
  have hk':k=31:=by
   have:=List.drop_eq_nil_iff.mp hk
   exact om207 h31 hk31 this
  subst hk'
  rw [hl rfl] at St
  exact hR s.heap s.gens s.toks y vs Ts St (fun _ _ _ _ e=>e) C.base C.inv (Nat.le_refl _)
 | cons d rest ih =>
  intro k later rows cur y vs Ts s hk C hn1 St hl hb hk31 hR
  have hd:told[k]? = some d:=by
   have:=congrArg (fun l:List Int=>l[0]?) hk
   simpa using this
  have hk2:told.drop (k + 1)=rest:=by
   have:=congrArg List.tail hk
   simpa using this
  have hlt:k<31:=by
   have:=(List.getElem?_eq_some_iff.mp hd).1
   exact om208 h31 this
  obtain ⟨h0,h5⟩:=hall d (List.mem_of_getElem? hd)
  by_cases hz:d=0
  · subst hz
    refine turnZ_c K L KP ht C hn0 hn1 St hd (by exact om209 hb hlt) (by exact om210 hb hlt) ?_
    intro h' G' t' y' Ts' St' kp hb' hc' hs'
    refine ih (k + 1) true _ _ y' _ Ts' _ hk2 (C.to hb' hc' hs') (Nat.le_trans hn1 hs') St' (fun _=>rfl) ?_ hlt ?_
    · rw [List.length_append,List.length_singleton,List.length_nil]; exact om211 hb
    · intro h2 G2 t2 y2 vs2 Ts2 St2 kp2 hb2 hc2 hs2
      exact hR h2 G2 t2 y2 vs2 Ts2 St2 (kp.trans kp2) hb2 hc2 (Nat.le_trans hs' hs2)
  · refine turnN_c K L KP ht C hn0 hn1 St hd h0 h5 hz (by exact om212 hb hlt) ?_
    intro h' G' t' y' vs' Ts' St' kp hb' hc' hs'
    refine ih (k + 1) true _ _ y' vs' Ts' _ hk2 (C.to hb' hc' hs') (Nat.le_trans hn1 hs') St' (fun _=>rfl) ?_ hlt ?_
    · rw [List.length_append,List.length_singleton]; exact om213 hb
    · intro h2 G2 t2 y2 vs2 Ts2 St2 kp2 hb2 hc2 hs2
      refine hR h2 G2 t2 y2 vs2 Ts2 ?_ (kp.trans kp2) hb2 hc2 (Nat.le_trans hs' hs2)
      show PSt _ _ _ _ _ _ _ _ (rest.foldl lay (lay (rows,cur) d)).1 (rest.foldl lay (lay (rows,cur) d)).2 _ _ _
      rw [show lay (rows,cur) d=(rows,cur++[d]) from if_neg hz]
      exact St2
noncomputable def l31 (c:Nat->Nat):List Nat:=[c 0,c 1,c 2,c 3,c 4,c 5,c 6,c 7,c 8,c 9,c 10,c 11,c 12,c 13,c 14,c 15,c 16,c 17,c 18,c 19,c 20,c 21,c 22,c 23,c 24,c 25,c 26,c 27,c 28,c 29,c 30]
theorem l31_at (c:Nat->Nat) (i:Nat) (_:i<31) (h2:i<(l31 c).length):(l31 c)[i]=c i:=by
 have:∀ (l:List Nat) (_:l=(List.range 31).map c) (h:i<l.length),l[i]=c i:=by
  rintro _ rfl h
  rw [List.getElem_map,List.getElem_range]
 exact this _ rfl h2
theorem tl31_of (told:List Int) (h:told.length=31):tx told=tl31 fun i=>sg (told.getD i 0):=by
 show (⟨(told.map sg).toArray⟩:Str)=⟨(l31 fun i=>sg (told.getD i 0)).toArray⟩
 congr 2
 refine List.ext_getElem (by rw [List.length_map,h]; rfl) fun i h1 h2=>?_
 rw [List.length_map,h] at h1
 rw [l31_at _ i h1 h2,List.getElem_map,List.getD_eq_getElem?_getD,List.getElem?_eq_getElem (by exact om60 h h1)]
 rfl
structure PEn (P:Params) (N n0:Nat) (h:Heap) (q:Nat->Nat) (rows:List (List Int)) (cur:List Int) (y:PG) (vs:List Value) (Ts:Nat->Nat):Prop where
 nodup:(q7 q).Nodup
 off:∀ a∈q7 q,n0≤a
 objs:(q7 q).map h.get? = [pgFr P true q y,oPage q,pgDict P q y,oList y.ls y.nl,oInst 206 (q 5) vs y.nv,oDict [ky P sSize (y.τ 15) (.int 0 (y.τ 16))] (y.v 1),oDone].map some
 lines:StrsAre y.ls (rows.map tx)
 len:vs.length=cur.length
 pool:∀ j,j<vs.length->vs[j]? = some (.ref (Ts j))∧(∃ t u,h.get? (Ts j)=some (oTup [.str chNo t,.str (tx [cur.getD j 0]) u]))∧n0≤Ts j∧∀ i,i<7->@Ne Nat (q i) (Ts j)
 sgl:∀ d,cur.getLast? = some d->y.sg=tx [d]
 inj:∀ i j,i<vs.length->j<vs.length->@Eq Nat (Ts i) (Ts j)->i=j
theorem outP (K:GenK kt) (L:LenK kt) (KP:PageK kt) {g:Nat->Nat} (h31:told.length=31) {s:Shared} (C:CxP kt w N A s) (hn0:N≤n0) {rows:List (List Int)} {cur:List Int} {y:PG} {vs:List Value} {Ts:Nat->Nat} (St:PSt w.params N n0 s.heap q true told 31 rows cur y vs Ts)
 (hR:∀ h' G' t' y' Ts',PEn w.params N n0 h' q rows cur y' vs Ts'->KeepsIn N n0 s.heap h'->(kt w.params).Holds h' 1 0->Cas G' h'->s.heap.objs.size≤h'.objs.size->R (.ok .next) ⟨h',G',s.drawn,t',s.os⟩) :
 codeAny (model thePw w) A (PC (kt w.params) w g (q 0) (q 6)) R s:=by
 refine code_of ?_
 obtain ⟨τ,told',k',ls,nl,nv0,sg',v⟩:=y
 have h1:told'=tl31 fun i=>sg (told.getD i 0):=(St.told_).trans (tl31_of told h31)
 have h2:k'=31:=St.k_
 subst h1
 subst h2
 let x:LP:=⟨L2.zero,w.params,s.heap,N,7,vs,Ts,cur,⟨⟨[]⟩⟩,[]⟩
 let y:PG:=⟨τ,tl31 fun i=>sg (told.getD i 0),31,ls,nl,nv0,sg',v⟩
 have e:=fun f tk'=>KP.out w x g (adJ (q7 q) f) tk' y fun i=>sg (told.getD i 0)
 refine seg2_dn (E:=mkP (x.put w 7 (fun _=>999) (fun _=>999) (fun _=>999)) (kt w.params) w) (I:=Cas) (q7 q) (pgL w.params true q x y) (C.cx2 (x:=x.put w 7 (fun _=>999) (fun _=>999) (fun _=>999)) K L rfl rfl rfl) St.nodup St.objs (fun a ha=>Nat.le_trans hn0 (St.off a ha)) trivial (plainP KP) (Nat.le_zero.mpr rfl) (Nat.zero_le _) pgOF (fun ad _=>pgOX w.params ad x y) (fun _ _=>[]) e ?_ ?_
 · intro f tk' p hp; cases hp
 · intro h' G' t' f tk' r T' m' eF D
   unfold pgOF pgOX at eF
   simp only [Prod.mk.injEq] at eF
   obtain ⟨er,e0,e1,e2,e3,e4,e5,e6⟩:=eF
   obtain ⟨nv,e4⟩:=seqI_some e4
   have z:=next_as2 D [0,1,2,3,4,5,6] _ (show _=List.map some [_,_,_,_,_,_,_] by
    simp only [List.map_cons,List.map_nil]
    rw [e0,e1,e2,e3,e4,e5,e6]) (by decide)
   have ads:[0,1,2,3,4,5,6].map (adJ (q7 q) f)=q7 q:=rfl
   rw [ads] at z
   have hr:r = .ok .next:=by
    cases r with
    | ok v=>cases v with
     | next=>rfl
     | _=>cases er
    | error e=>cases er
   subst hr
   refine hR h' G' t' { y with nv:=nv } Ts ⟨z.1,St.off,?_,St.lines,St.len,?_,St.sgl,St.inj⟩ ?_ D.base D.inv D.size
   · rw [z.2]
     rfl
   · intro j hj
     obtain ⟨p1,⟨t,u,p2⟩,p3,p4⟩:=St.pool j hj
     refine ⟨p1,⟨t,u,keep_out D (Nat.le_trans hn0 p3) p2 fun hm=>?_⟩,p3,p4⟩
     obtain ⟨i,hi,hq⟩:=q7_mem.mp hm
     exact p4 i hi hq
   · intro b o hb hb2 eb
     refine keep_out D hb eb fun hm=>?_
     have:=St.off b hm
     exact om32 hb2 this
end
end
section
open PySem.Builtin PySem.Builtin.Str
variable [Bs]
theorem strsFrom_are:∀ (k:Nat) (l:List Str),StrsAre (strsFrom k l) l
 | _,[]=>.nil
 | k,x::r=>.cons x k (strsFrom_are (k + 1) r)
theorem strsAre_append {a b:List Value} {x y:List Str} (h:StrsAre a x) (k:StrsAre b y):StrsAre (a++b) (x++y):=by
 induction h with
 | nil=>exact k
 | cons y u r ih=>exact .cons y u ih
section
variable {w:World} {A:Around} {R:Result->Shared->Prop} {s:Shared}
theorem split_c {x:Str} {t u:Nat} {l:List Str} (hl:Txt.split x chNl=l) (hx:x.length + 2≤sizeLine) (hR:∀ vs k,StrsAre vs l->R (.ok (.ret (.ref s.heap.objs.size))) { s with toks:=k,heap:=s.heap.push (oList vs 0) }) :
 codeAny (model thePw w) A (.call (.builtin "str.split") ⟨[.str x t,.str chNl u],[]⟩) R s:=by
 refine codeAny_call_builtin F.slot_str_split.plain F.entry_str_split (F.slot_str_split.check _ _ _ _ _ _ _ _ (typeIs_str _ _ _) (F.args_str_split_2 _ _) ?_)
 have hn:=split_le x chNl
 unfold Txt.split at hl hn
 cases h1:(decide (x.length<chNl.length) || decide (strKind x<strKind chNl))
 · rw [h1] at hl hn
   cases hf:(occurrences x chNl 0 x.length (x.length + 1)).isEmpty
   · rw [hf] at hl hn
     rw [if_neg Bool.false_ne_true,if_neg Bool.false_ne_true] at hl hn
     subst hl
     exact meets_str_split_sep x chNl t u h1 rfl hf (by exact om215 hx) (Nat.le_trans hn hx) thePw w A R s (hR _ _ (strsFrom_are _ _))
   · rw [hf] at hl
     rw [if_neg Bool.false_ne_true,if_pos rfl] at hl
     subst hl
     exact meets_str_split_not_found x chNl t u h1 rfl hf thePw w A R s (hR [.str x t] s.toks (.cons x t .nil))
 · rw [h1] at hl
   rw [if_pos rfl] at hl
   subst hl
   exact meets_str_split_cannot_occur x chNl t u h1 thePw w A R s (hR [.str x t] s.toks (.cons x t .nil))
end
noncomputable def rowsOf (told:List Int):List (List Int):=if (told.foldl lay ([],[])).2=[] then (told.foldl lay ([],[])).1 else (told.foldl lay ([],[])).1++[(told.foldl lay ([],[])).2]
theorem tx_free (l:List Int):(10:Nat) ∉ (tx l).cps.toList:=by
 show 10 ∉ l.map sg
 intro h
 obtain ⟨d,_,e⟩:=List.mem_map.mp h
 revert e
 unfold sg
 match d.toNat with
 | 0 | 1 | 2 | 3 | 4=>decide
 | n + 5=>intro e; cases e
theorem nospace2 {l:List Int} (hl:l ≠ []) (h:∀ d∈l,0≤d∧d<5):Txt.isspace (tx l)=false:=by
 unfold Txt.isspace
 have:(tx l).cps.all Unicode.isSpace=false:=by
  show (l.map sg).toArray.all Unicode.isSpace=false
  rw [List.all_toArray]
  cases l with
  | nil=>exact absurd rfl hl
  | cons d l =>
   rw [List.map_cons,List.all_cons]
   have:Unicode.isSpace (sg d)=false:=by
    obtain ⟨h0,h5⟩:=h d List.mem_cons_self
    have:d=0∨d=1∨d=2∨d=3∨d=4:=by exact om216 h0 h5
    rcases this with rfl | rfl | rfl | rfl | rfl <;> decide +kernel
   rw [this,Bool.false_and]
 rw [this,Bool.and_false]
section
variable {kt:Params->KT} {w:World} {A:Around} {R:Result->Shared->Prop} {N n0:Nat}
noncomputable def pgXA (P:Params) (h:Heap) (N:Nat) (vi:List Value) (Ts:Nat->Nat) (rows:List (List Int)) (ci:List Int) (d:Int):LP :=
 ⟨⟨{ Lt.zero with tk:=fun _=>ci.length,sl:=fun q=>match q with | 20=>Txt.join chNl ((rows++[ci++[d]]).map tx) | 15=>Txt.join chNl (rows.map tx) | _=>tx (ci++[d]) },fun _=>0,fun _=>0,fun _=>0,fun _=>[]⟩,P,h,N,8,vi,Ts,ci,tx [d],(rows++[ci++[d]]).map tx⟩
theorem endA (K:GenK kt) (L:LenK kt) (KP:PageK kt) {g tkA:Nat->Nat} {T0:Str} {tt:Nat} {s:Shared} (C:CxP kt w N A s) (hn0:N≤n0) {rows:List (List Int)} {ci:List Int} {d:Int} {y:PG} {vi:List Value} {Tl:Nat} {Ts:Nat->Nat}
 (St:PEn w.params N n0 s.heap (adPT g) rows (ci++[d]) y (vi++[.ref Tl]) Ts) (hall:∀ z∈ci++[d],0≤z∧z<5) (hsz:ci.length + 3<900) (hrz:rows.length<900) (hjz:((rows++[ci++[d]]).map fun r=>r.length).sum<10000)
 (k1:(pgRunA (kt w.params) w g tkA T0 tt).sκ.okc) (k2:(pgRunA (kt w.params) w g tkA T0 tt).sc.isCaller=false) (k3:(pgRunA (kt w.params) w g tkA T0 tt).sκ.len≤(pgRunA (kt w.params) w g tkA T0 tt).sd) (k4:(pgRunA (kt w.params) w g tkA T0 tt).sd=0)
 (hR:∀ h' G' t' p vs n,h'.get? p=some (oList vs n)->StrsAre vs ((rows++[ci++[d]]).map tx)->s.heap.objs.size≤p->KeepsIn N n0 s.heap h'->(kt w.params).Holds h' 1 0->Cas G' h'->s.heap.objs.size≤h'.objs.size->R (.ok (.ret (.ref p))) ⟨h',G',s.drawn,t',s.os⟩) :
 Means thePw w A R false (pgRunA (kt w.params) w g tkA T0 tt).sc ((pgRunA (kt w.params) w g tkA T0 tt).sk (.ok .next)) (pgRunA (kt w.params) w g tkA T0 tt).sκ s:=by
 have hll:vi.length=ci.length:=by
  have:=St.len
  simpa using this
 have lastP:=St.pool vi.length (by simp)
 have hTl:Ts vi.length=Tl:=by
  have:=lastP.1
  rw [List.getElem?_append_right (Nat.le_refl _),Nat.sub_self] at this
  simpa using this.symm
 rw [hTl] at lastP
 obtain ⟨t,u,el⟩:=lastP.2.1
 have egd:(ci++[d]).getD vi.length 0=d:=by rw [hll]; simp
 rw [egd] at el
 have esg:y.sg=tx [d]:=St.sgl d (by simp)
 rw [← esg] at el
 let x:=pgXA w.params s.heap N vi Ts rows ci d
 let as:=[adPT g 0,adPT g 1,adPT g 2,adPT g 3,adPT g 4,adPT g 5,adPT g 6,Tl]
 have hnd:as.Nodup:=by
  have h1:=St.nodup
  have h2:∀ i,i<7->@Ne Nat (adPT g i) Tl:=lastP.2.2.2
  show (q7 (adPT g)++[Tl]).Nodup
  rw [List.nodup_append]
  refine ⟨h1,by simp,fun a ha b hb=>?_⟩
  obtain ⟨i,hi,rfl⟩:=q7_mem.mp ha
  rw [List.mem_singleton] at hb
  rw [hb]
  exact h2 i hi
 have hoff:∀ a∈as,n0≤a:=by
  intro a ha
  rcases List.mem_append.mp (show a∈q7 (adPT g)++[Tl] from ha) with h | h
  · exact St.off a h
  · rw [List.mem_singleton.mp h]; exact lastP.2.2.1
 have hobj:as.map s.heap.get? = (pgCL w.params (adPT g) (vi++[.ref Tl]) y [oTup [.str chNo t,.str y.sg u]]).map some:=by
  show (q7 (adPT g)++[Tl]).map s.heap.get? = _
  rw [List.map_append,St.objs]
  show _++[s.heap.get? Tl]=_
  rw [el]
  rfl
 have hRA:pgRunA (kt w.params) w (adS (g 0) (g 10) g) tkA T0 tt=pgRunA (kt w.params) w g tkA T0 tt:=by rw [adS_self]
 rw [← hRA] at k1 k2 k3 k4 ⊢
 have hk8:∀ (f:Nat->Nat) i,i<7->adJ as f i=adPT g i:=fun f i hi=>by
  match i,hi with
  | 0,_ | 1,_ | 2,_ | 3,_ | 4,_ | 5,_ | 6,_=>rfl
 have hpool:∀ f:Nat->Nat,Pool (pgLa x w) (adJ as f):=fun f=>by
  refine ⟨hll,by show vi.length + 1<1000; exact om217 hsz hll,fun j hj=>?_⟩
  have hj:j<vi.length:=hj
  obtain ⟨p1,p2,p3,p4⟩:=St.pool j (by rw [List.length_append]; exact Nat.lt_succ_of_lt hj)
  refine ⟨by rw [List.getElem?_append_left hj] at p1; exact p1,?_,Nat.le_trans hn0 p3,fun i hi=>?_⟩
  · obtain ⟨t',u',p2⟩:=p2
    refine ⟨t',u',p2.trans ?_⟩
    have:(ci++[d]).getD j 0=ci.getD j 0:=by
     rw [List.getD_eq_getElem?_getD,List.getD_eq_getElem?_getD,List.getElem?_append_left (by exact om9 hll hj)]
    rw [this]
    rfl
  · by_cases q:i<7
    · rw [hk8 f i q]; exact p4 i q
    · have hi:i<8:=hi
      obtain rfl:i=7:=by exact om218 q hi
      show @Ne Nat Tl (Ts j)
      intro e
      have:=St.inj vi.length j (by simp) (by rw [List.length_append]; exact Nat.lt_succ_of_lt hj) (hTl.trans e)
      exact om219 hj this
 have hreg:∀ (f tk':Nat->Nat),RegOk (pgLa x w) (adJ as f) 4 5 21 (oInst 206 (adJ as f 5) ((x.vs++[])++[Value.ref (adJ as f 21)]) (y.nv + 1 + 1)) (oDict [ky w.params sSize (y.τ 15) (.int 0 (y.τ 16))] (y.v 1)) (oTup [.str chNo t,.str y.sg u]):=fun f tk'=>by
  refine ⟨⟨_,by rw [List.append_nil]; rfl⟩,⟨_,_,_,rfl⟩,⟨t,u,by rw [esg]; rfl⟩,⟨hpool f,by show 1<1000; decide⟩,by decide⟩
 have hjoin:tx (ci++[d])=Txt.join ⟨⟨[]⟩⟩ x.tx:=by
  have:x.tx=(ci++[d]).map fun d=>tx [d]:=by
   show (ci.map fun d=>tx [d])++[tx [d]]=_
   rw [List.map_append]; rfl
  rw [this,txs_join]
 have hsum:Int.ofNat (ci.length + 1)=(((x.tx.map (·.length)).sum:Nat):Int):=by
  have:x.tx=(ci++[d]).map fun d=>tx [d]:=by
   show (ci.map fun d=>tx [d])++[tx [d]]=_
   rw [List.map_append]; rfl
  rw [this,sum_one,List.length_append]
  rfl
 have ll:y.ls.length=rows.length:=by
  rw [StrsAre.len_eq St.lines,List.length_map]
 have hjt:((((rows++[ci++[d]]).map tx).map (·.length)).sum)<10000:=by
  rw [List.map_map]
  refine Nat.lt_of_le_of_lt (Nat.le_of_eq ?_) hjz
  congr 1
  refine List.map_congr_left fun r _=>?_
  exact tx_len r
 have e:=fun f tk'=>KP.lastA w x g (g 10) tkA T0 tt (adJ as f) tk' y t u
 refine seg2_stq (E:=mkP (pgLa x w) (kt w.params) w) (I:=Cas) as _ (C.cx2 (x:=pgLa x w) K L rfl rfl rfl) hnd hobj (fun a ha=>Nat.le_trans hn0 (hoff a ha)) k1 k2 k3 (by exact om220 k3 k4) pgCF (fun ad _=>(0,some ("str.split",x.L.l.sl 20,chNl))) (fun ad tk'=>pgCaO w ad tk' x y t u) (fun ad tk'=>pgCa (kt w.params) w x g (g 10) tkA T0 tt ad tk' y t u) (fun _ _=>rfl) e ?_ ?_
 · intro f tk' p hp
   unfold pgCaO at hp
   revert p
   refine all_cons ?_ ?_
   · refine ⟨rfl,rfl,?_,?_,rfl⟩
     · show StrsAre _ ((rows++[ci++[d]]).map tx)
       rw [List.map_append]
       exact strsAre_snoc St.lines _ _
     · show (((rows++[ci++[d]]).map tx).map (·.length)).sum + ((rows++[ci++[d]]).map tx).length * 1≤_
       rw [List.length_map,List.length_append,List.length_singleton]
       exact om221 hrz hjt
   refine all_cons ?_ ?_
   · refine ⟨rfl,rfl,rfl,by decide,rfl,rfl,?_⟩
     show ((vi++[])++[Value.ref _]).length + 0≤sizeLine
     rw [List.append_nil,List.length_append,List.length_singleton]
     unfold sizeLine
     exact om222 hsz hll
   refine all_cons ?_ ?_
   · exact ⟨rfl,by rw [ll]; unfold sizeLine; exact om202 hrz⟩
   refine all_cons ?_ ?_
   · exact ⟨rfl,hreg f tk',hjoin⟩
   refine all_cons ?_ ?_
   · trivial
   refine all_cons ?_ ?_
   · exact nospace2 (by simp) hall
   refine all_cons ?_ ?_
   · exact ⟨rfl,hreg f tk',hjoin⟩
   refine all_cons ?_ ?_
   · trivial
   refine all_cons ?_ ?_
   · exact ⟨rfl,hreg f tk',hsum⟩
   refine all_cons ?_ ?_
   · rfl
   refine all_cons ?_ ?_
   · exact iCmp_pos _
   refine all_cons ?_ ?_
   · exact ⟨rfl,hreg f tk',hsum⟩
   refine all_cons ?_ ?_
   · refine ⟨rfl,?_⟩
     show (vi++([]:List Value)).length + 1≤sizeLine
     rw [List.append_nil]
     unfold sizeLine
     exact om223 hsz hll
   refine all_cons ?_ ?_
   · exact ⟨rfl,rfl,rfl,rfl,by decide⟩
   refine all_cons ?_ ?_
   · refine ⟨rfl,rfl,rfl,rfl,rfl,fun j hj=>?_,rfl⟩
     match j,hj with
     | 0,_=>rfl
     | 1,_=>rfl
   refine all_cons ?_ ?_
   · refine ⟨rfl,by rw [List.append_nil],?_⟩
     show (vi++([]:List Value)).length + 1≤sizeLine
     rw [List.append_nil]
     unfold sizeLine
     exact om223 hsz hll
   refine all_cons ?_ ?_
   · trivial
   refine all_cons ?_ ?_
   · show (Int.ofNat _ == 0)=false
     rw [List.length_append]
     rfl
   refine all_cons ?_ ?_
   · trivial
   refine all_cons ?_ ?_
   · trivial
   refine all_cons ?_ ?_
   · trivial
   refine all_cons ?_ ?_
   · trivial
   refine all_cons ?_ ?_
   · trivial
   exact all_nil
 · intro h' G' t' f tk' c' T' m' eF D q1 q2 q3 q4
   unfold pgCF at eF
   rw [Prod.mk.injEq] at eF
   obtain ⟨ed,ec⟩:=eF
   rcases (Or.inl (spOf_some ec):_∨False) with ⟨ta,tb,rfl⟩ | ec
   · skip
     have hj:(Txt.join chNl ((rows++[ci++[d]]).map tx)).length≤(((rows++[ci++[d]]).map tx).map (·.length)).sum + ((rows++[ci++[d]]).map tx).length * chNl.length:=by
      rw [show Txt.join chNl ((rows++[ci++[d]]).map tx)=Str.join chNl _ from StrLaws.glued_eq_join _ _]
      exact StrLaws.join_length_le _ _
     refine split_c (l:=(rows++[ci++[d]]).map tx) (split_join 10 _ (by simp) fun z hz=>?_) ?_ ?_
     · obtain ⟨r,_,rfl⟩:=List.mem_map.mp hz
       exact tx_free r
     · refine Nat.le_trans (Nat.add_le_add_right hj 2) ?_
       rw [List.length_map,List.length_append,List.length_singleton]
       show _ + _ * 1 + 2≤sizeLine
       unfold sizeLine
       exact om224 hrz hjt
     · intro vs k hvs
       have kp:Keeps h' (h'.push (oList vs 0)):=fun a o e=>Heap.get?_push_of_some _ e
       have hsz':h'.objs.size≤(h'.push (oList vs 0)).objs.size:=by rw [Heap.size_push]; exact om225
       have D2:=D.move (h':=h'.push (oList vs 0)) (fun a o _ e=>kp a o e) (KT.Holds.keeps kp D.base) (D.stb _ _ (fun a o _ e=>kp a o e) D.inv) D.stb hsz'
       have kin:KeepsIn N n0 s.heap (h'.push (oList vs 0)):=fun b o hb hb2 eb=>keep_out D2 hb eb fun hm=>by
        have:=hoff b hm
        exact om32 hb2 this
       have et:=KP.tailA w x g (g 10) tkA T0 tt (adJ as f) tk' y t u
       refine seg2_dn (E:=mkP { LP.zero w with h0:=h'.push (oList vs 0),N:=N } (kt w.params) w) (I:=Cas) [] [] ((C.to (s':=⟨h'.push (oList vs 0),G',s.drawn,k,s.os⟩) D2.base D2.inv D2.size).cx2 (x:={ LP.zero w with h0:=h'.push (oList vs 0),N:=N }) K L rfl rfl rfl) (by simp) rfl (fun a ha=>by cases ha) q1 q2 q3 (by rw [ed] at q3; exact om226 q3) valOf2 (fun _ _=>some (.ref h'.objs.size)) (fun _ _=>[]) (fun f2 tk2=>et { LP.zero w with h0:=h'.push (oList vs 0),N:=N } (adJ [] f2) tk2 h'.objs.size) ?_ ?_
       · intro _ _ p hp; cases hp
       · intro h3 G3 t3 f3 tk3 r T3 m3 eF D3
         unfold valOf2 at eF
         split at eF
         · rename_i v
           obtain rfl:=Option.some.inj eF
           have k3':KeepsN N (h'.push (oList vs 0)) h3:=fun a o ha e=>keep_out D3 ha e (by simp)
           refine hR h3 G3 t3 h'.objs.size vs 0 (k3' _ _ (Nat.le_trans C.hN D.size) (Heap.get?_push_size _ rfl)) hvs D.size (fun b o hb hb2 eb=>k3' b o hb (kin b o hb hb2 eb)) D3.base D3.inv (Nat.le_trans D2.size D3.size)
         · cases eF
   · cases ec
end
end
section
open PySem.Builtin PySem.Builtin.Str
variable [Bs]
section
variable {kt:Params->KT} {w:World} {A:Around} {R:Result->Shared->Prop} {N n0:Nat}
noncomputable def pgXB (P:Params) (h:Heap) (N:Nat) (Ts:Nat->Nat) (rows:List (List Int)):LP :=
 ⟨⟨{ Lt.zero with il:=fun _=>0,sl:=fun _=>Txt.join chNl (rows.map tx) },fun _=>0,fun _=>0,fun _=>0,fun _=>[]⟩,P,h,N,7,[],Ts,[],⟨⟨[]⟩⟩,rows.map tx⟩
theorem endB (K:GenK kt) (L:LenK kt) (KP:PageK kt) {g tkA:Nat->Nat} {T0:Str} {tt:Nat} {s:Shared} (C:CxP kt w N A s) (hn0:N≤n0) {rows:List (List Int)} {y:PG} {vi:List Value} {Ts:Nat->Nat}
 (St:PEn w.params N n0 s.heap (adPT g) rows [] y vi Ts) (hne:rows ≠ []) (hrz:rows.length<900) (hjz:(rows.map fun r=>r.length).sum<10000)
 (k1:(pgRunA (kt w.params) w g tkA T0 tt).sκ.okc) (k2:(pgRunA (kt w.params) w g tkA T0 tt).sc.isCaller=false) (k3:(pgRunA (kt w.params) w g tkA T0 tt).sκ.len≤(pgRunA (kt w.params) w g tkA T0 tt).sd) (k4:(pgRunA (kt w.params) w g tkA T0 tt).sd=0)
 (hR:∀ h' G' t' p vs n,h'.get? p=some (oList vs n)->StrsAre vs (rows.map tx)->s.heap.objs.size≤p->KeepsIn N n0 s.heap h'->(kt w.params).Holds h' 1 0->Cas G' h'->s.heap.objs.size≤h'.objs.size->R (.ok (.ret (.ref p))) ⟨h',G',s.drawn,t',s.os⟩) :
 Means thePw w A R false (pgRunA (kt w.params) w g tkA T0 tt).sc ((pgRunA (kt w.params) w g tkA T0 tt).sk (.ok .next)) (pgRunA (kt w.params) w g tkA T0 tt).sκ s:=by
 have hv:vi=[]:=List.length_eq_zero_iff.mp St.len
 subst hv
 let x:=pgXB w.params s.heap N Ts rows
 have hRA:pgRunA (kt w.params) w (adS (g 0) (g 10) g) tkA T0 tt=pgRunA (kt w.params) w g tkA T0 tt:=by rw [adS_self]
 rw [← hRA] at k1 k2 k3 k4 ⊢
 have hreg:∀ (f tk':Nat->Nat),RegOk (pgLb x w) (adJ (q7 (adPT g)) f) 4 5 19 (oInst 206 (adJ (q7 (adPT g)) f 5) [Value.ref (adJ (q7 (adPT g)) f 19)] (y.nv + 1)) (oDict [ky w.params sSize (y.τ 15) (.int 0 (y.τ 16))] (y.v 1)) (oTup [.str chNo (tk' 10),.str chNo (tk' 11)]):=fun f tk'=>by
  refine ⟨⟨_,rfl⟩,⟨_,_,_,rfl⟩,⟨_,_,rfl⟩,⟨⟨rfl,by show 0 + 1<1000; decide,fun j hj=>absurd hj (Nat.not_lt_zero _)⟩,by show 0<1000; decide⟩,by decide⟩
 have ll:y.ls.length=rows.length:=by
  rw [StrsAre.len_eq St.lines,List.length_map]
 have hjt:(((rows.map tx).map (·.length)).sum)<10000:=by
  rw [List.map_map]
  refine Nat.lt_of_le_of_lt (Nat.le_of_eq ?_) hjz
  congr 1
  refine List.map_congr_left fun r _=>?_
  exact tx_len r
 have e:=fun f tk'=>KP.lastB w x g (g 10) tkA T0 tt (adJ (q7 (adPT g)) f) tk' y
 have hobj:(q7 (adPT g)).map s.heap.get? = (pgCL w.params (adPT g) [] y []).map some:=St.objs
 refine seg2_stq (E:=mkP (pgLb x w) (kt w.params) w) (I:=Cas) (q7 (adPT g)) _ (C.cx2 (x:=pgLb x w) K L rfl rfl rfl) St.nodup hobj (fun a ha=>Nat.le_trans hn0 (St.off a ha)) k1 k2 k3 (by exact om220 k3 k4) pgCF (fun ad _=>(0,some ("str.split",x.L.l.sl 15,chNl))) (fun ad tk'=>pgCbO w ad tk' x y) (fun ad tk'=>pgCb (kt w.params) w x g (g 10) tkA T0 tt ad tk' y) (fun _ _=>rfl) e ?_ ?_
 · intro f tk' p hp
   unfold pgCbO at hp
   revert p
   refine all_cons ?_ ?_
   · refine ⟨rfl,rfl,St.lines,?_,rfl⟩
     show ((rows.map tx).map (·.length)).sum + (rows.map tx).length * 1≤_
     rw [List.length_map]
     exact om227 hrz hjt
   refine all_cons ?_ ?_
   · refine ⟨rfl,rfl,rfl,by decide,rfl,rfl,?_⟩
     show 1 + 0≤sizeLine
     decide
   refine all_cons ?_ ?_
   · rfl
   refine all_cons ?_ ?_
   · exact ⟨rfl,hreg f tk',rfl⟩
   refine all_cons ?_ ?_
   · exact ⟨rfl,by decide⟩
   refine all_cons ?_ ?_
   · exact ⟨rfl,rfl,rfl,rfl,by decide⟩
   refine all_cons ?_ ?_
   · refine ⟨rfl,rfl,rfl,rfl,rfl,fun j hj=>?_,rfl⟩
     match j,hj with
     | 0,_=>rfl
     | 1,_=>rfl
   refine all_cons ?_ ?_
   · rfl
   refine all_cons ?_ ?_
   · trivial
   refine all_cons ?_ ?_
   · trivial
   refine all_cons ?_ ?_
   · trivial
   refine all_cons ?_ ?_
   · trivial
   refine all_cons ?_ ?_
   · trivial
   exact all_nil
 · intro h' G' t' f tk' c' T' m' eF D q1 q2 q3 q4
   unfold pgCF at eF
   rw [Prod.mk.injEq] at eF
   obtain ⟨ed,ec⟩:=eF
   rcases (Or.inl (spOf_some ec):_∨False) with ⟨ta,tb,rfl⟩ | ec
   · skip
     have hj:(Txt.join chNl (rows.map tx)).length≤((rows.map tx).map (·.length)).sum + (rows.map tx).length * chNl.length:=by
      rw [show Txt.join chNl (rows.map tx)=Str.join chNl _ from StrLaws.glued_eq_join _ _]
      exact StrLaws.join_length_le _ _
     refine split_c (l:=rows.map tx) (split_join 10 _ (by simpa using hne) fun z hz=>?_) ?_ ?_
     · obtain ⟨r,_,rfl⟩:=List.mem_map.mp hz
       exact tx_free r
     · refine Nat.le_trans (Nat.add_le_add_right hj 2) ?_
       rw [List.length_map]
       show _ + _ * 1 + 2≤sizeLine
       unfold sizeLine
       exact om228 hrz hjt
     · intro vs k hvs
       have kp:Keeps h' (h'.push (oList vs 0)):=fun a o e=>Heap.get?_push_of_some _ e
       have hsz':h'.objs.size≤(h'.push (oList vs 0)).objs.size:=by rw [Heap.size_push]; exact om225
       have D2:=D.move (h':=h'.push (oList vs 0)) (fun a o _ e=>kp a o e) (KT.Holds.keeps kp D.base) (D.stb _ _ (fun a o _ e=>kp a o e) D.inv) D.stb hsz'
       have kin:KeepsIn N n0 s.heap (h'.push (oList vs 0)):=fun b o hb hb2 eb=>keep_out D2 hb eb fun hm=>by
        have:=St.off b hm
        exact om32 hb2 this
       have et:=KP.tailB w x g (g 10) tkA T0 tt (adJ (q7 (adPT g)) f) tk' y
       refine seg2_dn (E:=mkP { LP.zero w with h0:=h'.push (oList vs 0),N:=N } (kt w.params) w) (I:=Cas) [] [] ((C.to (s':=⟨h'.push (oList vs 0),G',s.drawn,k,s.os⟩) D2.base D2.inv D2.size).cx2 (x:={ LP.zero w with h0:=h'.push (oList vs 0),N:=N }) K L rfl rfl rfl) (by simp) rfl (fun a ha=>by cases ha) q1 q2 q3 (by rw [ed] at q3; exact om226 q3) valOf2 (fun _ _=>some (.ref h'.objs.size)) (fun _ _=>[]) (fun f2 tk2=>et { LP.zero w with h0:=h'.push (oList vs 0),N:=N } (adJ [] f2) tk2 h'.objs.size) ?_ ?_
       · intro _ _ p hp; cases hp
       · intro h3 G3 t3 f3 tk3 r T3 m3 eF D3
         unfold valOf2 at eF
         split at eF
         · rename_i v
           obtain rfl:=Option.some.inj eF
           have k3':KeepsN N (h'.push (oList vs 0)) h3:=fun a o ha e=>keep_out D3 ha e (by simp)
           refine hR h3 G3 t3 h'.objs.size vs 0 (k3' _ _ (Nat.le_trans C.hN D.size) (Heap.get?_push_size _ rfl)) hvs D.size (fun b o hb hb2 eb=>k3' b o hb (kin b o hb hb2 eb)) D3.base D3.inv (Nat.le_trans D2.size D3.size)
         · cases eF
   · cases ec
theorem lay_sum:∀ (l:List Int) (rc:List (List Int)×List Int),((l.foldl lay rc).1.map fun r=>r.length).sum + (l.foldl lay rc).2.length=(rc.1.map fun r=>r.length).sum + rc.2.length + l.length
 | [],rc=>rfl
 | d::l,rc=>by
  rw [List.foldl_cons,lay_sum l]
  unfold lay
  split
  · rw [List.map_append,List.sum_append,List.length_cons]
    simp
    exact om229
  · show (rc.1.map fun r=>r.length).sum + (rc.2++[d]).length + l.length=_
    simp only [List.length_append,List.length_cons,List.length_nil]
    exact om230
theorem lay_rows:∀ (l:List Int) (rc:List (List Int)×List Int),(l.foldl lay rc).1.length≤rc.1.length + l.length
 | [],rc=>Nat.le_refl _
 | d::l,rc=>by
  rw [List.foldl_cons]
  refine Nat.le_trans (lay_rows l _) ?_
  unfold lay
  split
  · rw [List.length_append,List.length_singleton,List.length_cons]
    exact om231
  · rw [List.length_cons]; show rc.1.length + _≤_; exact om232
theorem lay_all {p:Int->Prop} (h0:p 0):∀ (l:List Int) (rc:List (List Int)×List Int),(∀ d∈l,p d)->(∀ d∈rc.2,p d)->∀ d∈(l.foldl lay rc).2,p d
 | [],rc,_,h=>h
 | d::l,rc,hl,h=>by
  rw [List.foldl_cons]
  refine lay_all h0 l _ (fun z hz=>hl z (List.mem_cons_of_mem _ hz)) ?_
  unfold lay
  split
  · intro z hz; cases hz
  · intro z hz
    rcases List.mem_append.mp hz with hz | hz
    · exact h z hz
    · rw [List.mem_singleton.mp hz]; exact hl d List.mem_cons_self
theorem ascii_tx (l:List Int):(tx l).cps.all (·<128)=true:=by
 show (l.map sg).toArray.all (·<128)=true
 rw [List.all_toArray,List.all_eq_true]
 intro z hz
 obtain ⟨d,_,rfl⟩:=List.mem_map.mp hz
 unfold sg
 match d.toNat with
 | 0 | 1 | 2 | 3 | 4=>decide
 | n + 5=>exact (rfl:decide (0<128)=true)
theorem zeroE {kt:KT} {h:Heap}:mkP { LP.zero w with h0:=h,N:=N } kt w=mkP (LP.zero w) kt w:=by
 have hp:∀ ad,Pool { LP.zero w with h0:=h,N:=N } ad=Pool (LP.zero w) ad:=fun ad=>propext
  ⟨fun ⟨a,b,_⟩=>⟨a,b,fun j hj=>absurd hj (Nat.not_lt_zero _)⟩,fun ⟨a,b,_⟩=>⟨a,b,fun j hj=>absurd hj (Nat.not_lt_zero _)⟩⟩
 have hc:ctP { LP.zero w with h0:=h,N:=N } = ctP (LP.zero w):=by
  funext q c T ad m tk i
  unfold ctP ctP1 ctPj ctLen ctStr ctJoin RegOk
  simp only [hp]
  rfl
 unfold mkP
 rw [hc]
theorem CxP.zero {s:Shared} (C:CxP kt w N A s) (K:GenK kt) (L:LenK kt):Cx2 w (mkP (LP.zero w) (kt w.params) w) A N Cas 0 s:=by
 have:=C.cx2 (x:={ LP.zero w with h0:=s.heap,N:=N }) K L rfl rfl rfl
 rw [zeroE] at this
 exact this
theorem page_c (K:GenK kt) (L:LenK kt) (KP:PageK kt) (ht:Tab (kt w.params) w) (T0:TopOk (kt w.params) N) {s:Shared} {told:List Int} {tt:Nat} (hA:A.handled=none) (hd:A.depth + 335<recursionLimit) (hu:A.units + 330<cLine) (hb:(kt w.params).Holds s.heap 1 0) (hN:N≤s.heap.objs.size) (hI:Cas s.gens s.heap)
 (h31:told.length=31) (hall:∀ d∈told,0≤d∧d<5)
 (hR:∀ h' G' t' p vs n,h'.get? p=some (oList vs n)->StrsAre vs ((rowsOf told).map tx)->s.heap.objs.size≤p->KeepsN N s.heap h'->(kt w.params).Holds h' 1 0->Cas G' h'->s.heap.objs.size≤h'.objs.size->R (.ok (.ret (.ref p))) ⟨h',G',s.drawn,t',s.os⟩) :
 codeAny (model thePw w) A (.call (.ref 258) ⟨[.str (tx told) tt],[]⟩) R s:=by
 have C:CxP kt w N A s:=⟨T0,hA,by exact om233 hd,by exact om234 hu,hb,hN,hI⟩
 refine call_means (N:=N) ⟨hA,by exact om235 hd,hb,T0.top,T0.lim⟩ (KP.def_ _) ?_
 refine seg2_stq (E:=mkP (LP.zero w) (kt w.params) w) (I:=Cas) [] [] (C.zero K L) (by simp) rfl (fun a ha=>by cases ha) trivial rfl (Nat.le_refl _) (Nat.zero_le _) pgAF (fun ad tk'=>pgAX w.params ad (pgY0 tk' (tx told) tt) (PC (kt w.params) w ad (ad 0) (ad 10))) (fun _ _=>[(tx told).cps.all (·<128)=true,True,True,True]) (fun ad tk'=>pgRunA (kt w.params) w ad tk' (tx told) tt) (fun _ _=>rfl) (fun f tk'=>KP.begin_ w (adJ [] f) tk' (tx told) tt) ?_ ?_
 · intro f tk' p hp
   revert p
   refine all_cons ?_ ?_
   · exact ascii_tx told
   refine all_cons ?_ ?_
   · trivial
   refine all_cons ?_ ?_
   · trivial
   refine all_cons ?_ ?_
   · trivial
   exact all_nil
 · intro h' G' t' f tk' c' T' m' eF D k1 k2 k3 k4
   unfold pgAF pgAX at eF
   simp only [Prod.mk.injEq] at eF
   obtain ⟨ed,ec,e0,e2,e1,e4,e6,e5,e10⟩:=eF
   obtain ⟨nv,e6⟩:=seqI_some e6
   subst ec
   have hlen0:(pgRunA (kt w.params) w (adJ [] f) tk' (tx told) tt).sκ.len=0:=by rw [ed] at k3; exact om236 k3
   have z:=next_as2 D [0,2,1,4,6,5,10] _ (show _=List.map some [_,_,_,_,_,_,_] by
    simp only [List.map_cons,List.map_nil]
    rw [e0,e2,e1,e4,e6,e5,e10]) (by decide)
   have ads:[0,2,1,4,6,5,10].map (adJ [] f)=q7 (adPT (adJ [] f)):=rfl
   rw [ads] at z
   have hoff:∀ a∈q7 (adPT (adJ [] f)),s.heap.objs.size≤a:=by
    rw [← ads]
    intro a ha
    obtain ⟨j,hj,rfl⟩:=List.mem_map.mp ha
    refine D.new j (Nat.zero_le _) ?_
    simp only [List.mem_cons,List.not_mem_nil,or_false] at hj
    rcases hj with rfl | rfl | rfl | rfl | rfl | rfl | rfl
    · exact (D.own _ _ e0).1
    · exact (D.own _ _ e2).1
    · exact (D.own _ _ e1).1
    · exact (D.own _ _ e4).1
    · exact (D.own _ _ e6).1
    · exact (D.own _ _ e5).1
    · exact (D.own _ _ e10).1
   have kin:KeepsIn N s.heap.objs.size s.heap h':=fun b o hb hb2 eb=>keep_out D hb eb (by simp)
   have hdk:=arK_depth A (.cons (pgRunA (kt w.params) w (adJ [] f) tk' (tx told) tt).sc (pgRunA (kt w.params) w (adJ [] f) tk' (tx told) tt).sk (pgRunA (kt w.params) w (adJ [] f) tk' (tx told) tt).sκ) ⟨k2,k1⟩
   have huk:=arK_units A (.cons (pgRunA (kt w.params) w (adJ [] f) tk' (tx told) tt).sc (pgRunA (kt w.params) w (adJ [] f) tk' (tx told) tt).sk (pgRunA (kt w.params) w (adJ [] f) tk' (tx told) tt).sκ) ⟨k2,k1⟩
   have hln:(Kn.cons (pgRunA (kt w.params) w (adJ [] f) tk' (tx told) tt).sc (pgRunA (kt w.params) w (adJ [] f) tk' (tx told) tt).sk (pgRunA (kt w.params) w (adJ [] f) tk' (tx told) tt).sκ).len=1:=by
    show (pgRunA (kt w.params) w (adJ [] f) tk' (tx told) tt).sκ.len + 1=1
    exact om237 k3 ed
   rw [hln] at hdk huk
   have C2:CxP kt w N (arK A (.cons (pgRunA (kt w.params) w (adJ [] f) tk' (tx told) tt).sc (pgRunA (kt w.params) w (adJ [] f) tk' (tx told) tt).sk (pgRunA (kt w.params) w (adJ [] f) tk' (tx told) tt).sκ)) ⟨h',G',s.drawn,t',s.os⟩:=⟨T0,(arK_handled A _).trans hA,by exact om238 hd hdk,by exact om239 hu huk,D.base,Nat.le_trans hN D.size,D.inv⟩
   have St:PSt w.params N s.heap.objs.size h' (adPT (adJ [] f)) false told 0 [] [] { pgY0 tk' (tx told) tt with nv:=nv } [] (fun _=>0):=by
    refine ⟨z.1,hoff,?_,rfl,rfl,.nil,rfl,fun j hj=>absurd hj (Nat.not_lt_zero _),fun d e=>(by cases e),fun i j hi=>absurd hi (Nat.not_lt_zero _)⟩
    rw [z.2]
    rfl
   refine loopP (q:=adPT (adJ [] f)) (n0:=s.heap.objs.size) (N:=N) (told:=told) (g:=adJ [] f) K L KP ht h31 hall hN told 0 false [] [] _ [] _ _ rfl C2 D.size St (fun e=>by rw [e] at h31; cases h31) (Nat.le_refl _) (by decide) ?_
   intro h2 G2 t2 y2 vs2 Ts2 St2 kp2 hb2 hc2 hs2
   have C3:CxP kt w N (arK A (.cons (pgRunA (kt w.params) w (adJ [] f) tk' (tx told) tt).sc (pgRunA (kt w.params) w (adJ [] f) tk' (tx told) tt).sk (pgRunA (kt w.params) w (adJ [] f) tk' (tx told) tt).sκ)) ⟨h2,G2,s.drawn,t2,s.os⟩:=C2.to hb2 hc2 hs2
   refine outP (q:=adPT (adJ [] f)) (n0:=s.heap.objs.size) (N:=N) (told:=told) (g:=adJ [] f) K L KP h31 C3 hN St2 ?_
   intro h3 G3 t3 y3 Ts3 St3 kp3 hb3 hc3 hs3
   have C4:CxP kt w N A ⟨h3,G3,s.drawn,t3,s.os⟩:=C.to hb3 hc3 (Nat.le_trans D.size (Nat.le_trans hs2 hs3))
   have sum0:=lay_sum told ([],[])
   have row0:=lay_rows told ([],[])
   have all0:=lay_all (p:=fun z=>0≤z∧z<5) ⟨by decide,by decide⟩ told ([],[]) hall (fun d e=>by cases e)
   have hs03:s.heap.objs.size≤h3.objs.size:=Nat.le_trans D.size (Nat.le_trans hs2 hs3)
   have kin3:KeepsIn N s.heap.objs.size s.heap h3:=(kin.trans kp2).trans kp3
   have fin:∀ h':Heap,KeepsIn N s.heap.objs.size h3 h'->KeepsN N s.heap h':=fun h' k b o hb eb=>(kin3.trans k) b o hb (Heap.lt_size eb) eb
   rw [h31] at sum0 row0
   have hr:rowsOf told=if (told.foldl lay ([],[])).2=[] then (told.foldl lay ([],[])).1 else (told.foldl lay ([],[])).1++[(told.foldl lay ([],[])).2]:=rfl
   revert St3 sum0 row0 all0 hr
   generalize (told.foldl lay ([],[])).1=rows
   generalize (told.foldl lay ([],[])).2=cur
   intro St3 sum0 row0 all0 hr
   by_cases hcur:cur=[]
   · rw [if_pos hcur] at hr
     subst hcur
     refine endB (n0:=s.heap.objs.size) K L KP C4 hN St3 ?_ ?_ ?_ k1 k2 k3 ed ?_
     · intro e
       rw [e] at sum0
       revert sum0
       decide
     · have:rows.length≤0 + 31:=row0
       exact om240 this
     · have h1:(rows.map fun r=>r.length).sum + 0=0 + 0 + 31:=sum0
       exact om241 h1
     · intro h' G' t' p vs n e1 e2 e3 e4 e5 e6 e7
       rw [← hr] at e2
       exact hR h' G' t' p vs n e1 e2 (Nat.le_trans hs03 e3) (fin h' e4) e5 e6 (Nat.le_trans hs03 e7)
   · rw [if_neg hcur] at hr
     obtain ⟨ci,d,rfl⟩:∃ ci d,cur=ci++[d]:=⟨cur.dropLast,cur.getLast hcur,(List.dropLast_concat_getLast hcur).symm⟩
     have h1:(rows.map fun r=>r.length).sum + (ci++[d]).length=0 + 0 + 31:=sum0
     rw [List.length_append,List.length_singleton] at h1
     obtain ⟨vi,v,rfl⟩:∃ vi v,vs2=vi++[v]:=by
      have:vs2 ≠ []:=fun e=>by
       have:=St3.len
       rw [e] at this
       simp at this
      exact ⟨vs2.dropLast,vs2.getLast this,(List.dropLast_concat_getLast this).symm⟩
     obtain ⟨Tl,rfl⟩:∃ Tl,v = .ref Tl:=by
      have:=(St3.pool vi.length (by simp)).1
      rw [List.getElem?_append_right (Nat.le_refl _),Nat.sub_self] at this
      exact ⟨_,by simpa using this⟩
     refine endA (n0:=s.heap.objs.size) K L KP C4 hN St3 all0 ?_ ?_ ?_ k1 k2 k3 ed ?_
     · exact om242 h1
     · have:rows.length≤0 + 31:=row0
       exact om240 this
     · rw [List.map_append,List.sum_append]
       show _ + ((ci++[d]).length + 0)<10000
       rw [List.length_append,List.length_singleton]
       exact om243 h1
     · intro h' G' t' p vs n e1 e2 e3 e4 e5 e6 e7
       rw [← hr] at e2
       exact hR h' G' t' p vs n e1 e2 (Nat.le_trans hs03 e3) (fin h' e4) e5 e6 (Nat.le_trans hs03 e7)
end
end
section
variable [Bs]
section
variable {w:World} {A:Around} {R:Result->Shared->Prop} {s:Shared}
theorem code_entry {id:String} {b:Builtin} {args:List Value} (hk:builtinKind id=none) (hp:plainId id=true) (hb:entryFor table id=some b) (ha:argsOk id ⟨args,[]⟩)
 (hc:wpAny (model thePw w) A.in1 (b ⟨args,[]⟩) (fun fin s'=>∃ v,fin = .done (.ret v)∧R (.ok (.ret v)) s') (fun e s'=>R (.error e) s') s):codeAny (model thePw w) A (.call (.builtin id) ⟨args,[]⟩) R s:=by
 refine codeAny_call_builtin hp hb ?_
 have hfin:=wpAny_mono hc (Q':=fun fin s'=>match fin with
  | .done f=>R (.ok f) s'
  | .again c'=>c'.quiet=true∧codeAny (model thePw w) A c' R s')
  (fun fin s' h'=>by obtain ⟨v,rfl,hv⟩:=h'; exact hv) fun _ _ h'=>h'
 simp only [checkBuiltinCall,hk]
 cases hsig:Manifest.signature? id with
 | none=>exact wpAny_pure hfin
 | some sig =>
  simp only [argsOk,hsig] at ha
  have h2:Bind.checkArgs id sig ⟨args,[]⟩=pure ():=ha
  show wpAny _ A.in1 (Bind.checkArgs id sig ⟨args,[]⟩) _ _ s
  rw [h2]; exact wpAny_pure hfin
theorem sorted_c {l:Nat} {vs:List Value} {ns:List Int} {n:Nat} (hl:s.heap.get? l=some (oList vs n)) (hI:IntsAre vs ns) (h64:vs.length<64)
 (hR:∀ h' p out ns' n',h'.get? p=some (oList out n')->IntsAre out ns'->ns'.Perm ns->ns'.Pairwise (·≤·)->Keeps s.heap h'->s.heap.objs.size≤p->s.heap.objs.size≤h'.objs.size->R (.ok (.ret (.ref p))) { s with heap:=h' }) :
 codeAny (model thePw w) A (.call (.builtin "sorted") ⟨[.ref l],[]⟩) R s:=by
 refine code_entry kind_sorted plain_sorted entry_sorted (args_sorted1 _) ?_
 unfold Builtin.«sorted»
 refine wpAny_bind (m:=checkCount "sorted" 1 1 _) (wpAny_pure ?_)
 refine wpAny_bind (collect_list (vs:=vs) ⟨_,hl,rfl,n,rfl⟩ ?_ (by unfold sizeLine; exact om266 h64))
 refine wpAny_bind (wpAny_newList ?_)
 have hsz:((s.heap.push (seqObj "list" #[] 0)).update s.heap.objs.size (Obj.mapSeq (·++vs.toArray))).objs.size=s.heap.objs.size + 1:=by
  rw [Heap.size_update,size_push']
 have hoL:(((s.heap.push (seqObj "list" #[] 0)).update s.heap.objs.size (Obj.mapSeq (·++vs.toArray))).push (seqObj "list" vs.toArray 0)).get? (s.heap.objs.size + 1)=some (seqObj "list" vs.toArray 0):=by
  rw [← hsz]; exact Heap.get?_push_size _ rfl
 show wpAny _ _ _ _ _ { s with heap:=((s.heap.push (seqObj "list" #[] 0)).update s.heap.objs.size (Obj.mapSeq (·++vs.toArray))).push (seqObj "list" vs.toArray 0) }
 rw [hsz]
 refine wpAny_bind (wpAny_holding (wpAny_call_entry slot_list_sort ⟨_,hoL,rfl⟩ entry_list_sort (list_sort_tree hoL hI h64 fun out ns' a1 a2 a3=>⟨_,rfl,?_⟩) (args_list_sort _)))
 have kp:Keeps s.heap (sortedAll s.heap vs out):=fun b o e=>by
  have hb:b<s.heap.objs.size:=Heap.lt_size e
  unfold sortedAll sortedHeap
  rw [Heap.get?_update_ne _ _ _ _ (Nat.ne_of_lt (Nat.lt_succ_of_lt hb))]
  refine Heap.get?_push_of_some _ (Heap.get?_push_of_some _ ?_)
  rw [Heap.get?_update_ne _ _ _ _ (Nat.ne_of_lt (Nat.lt_succ_of_lt hb))]
  refine Heap.get?_push_of_some _ ?_
  rw [Heap.get?_update_ne _ _ _ _ (Nat.ne_of_lt hb)]
  exact Heap.get?_push_of_some _ e
 have hs:s.heap.objs.size≤(sortedAll s.heap vs out).objs.size:=by
  unfold sortedAll sortedHeap
  simp only [Heap.size_update,size_push']
  exact om268
 have e1:=get?_update_seq hoL (fun _=>#[])
 have e2:=Heap.get?_push_of_some (seqObj "list" #[] 0) (Heap.get?_push_of_some (seqObj "tuple" vs.toArray 0) e1)
 have e3:=get?_update_seq e2 (fun _=>out)
 exact wpAny_pure ⟨_,rfl,hR (sortedAll s.heap vs out) (s.heap.objs.size + 1) out.toList ns' _ e3 a1 a2 a3 kp (Nat.le_succ _) hs⟩
end
end
section
noncomputable def plumaT (kt:KT) (w:World) (ad:Nat->Nat) (t0 g0:Nat) (a:Nat->Int) (ta:Nat->Nat) (n:Nat):Rs:=callT (mkE Lt.zero kt w ad t0 g0) 90 246 [.ref (ad 0)] (bt [l3 a ta n]) 1 zo53
noncomputable def plumaV (a:Nat->Int):Int:=(30 * a 0 + 59 * a 1 + 11 * a 2).fmod 5
structure PlumaK (kt:Params->KT):Prop where
 def_:∀ P,(defAt (kt P) 246).isSome=true
 all:∀ (w:World) ad t0 g0 a ta n,(plumaT (kt w.params) w ad t0 g0 a ta n).dn lumaF=some ((some (plumaV a),some (l3 a ta n)),[IntMulOk 11 (a 2),IntMulOk 59 (a 1),IntMulOk 30 (a 0)],(plumaT (kt w.params) w ad t0 g0 a ta n).l1,(plumaT (kt w.params) w ad t0 g0 a ta n).l1)
section
variable {kt:Params->KT} {w:World} {A:Around} {R:Result->Shared->Prop} {s:Shared} {N:Nat} {pa:Nat} {a:Nat->Int}
theorem pluma_c (K:PlumaK kt) (C:Cx (kt w.params) N 210 A s.heap) (ha:I3 s.heap pa a) (na:N≤pa)
 (hR:∀ h' g' t' tk,Keeps s.heap h'->s.heap.objs.size≤h'.objs.size->GB s.gens g'->R (.ok (.ret (.int (plumaV a) tk))) ⟨h',g',s.drawn,t',s.os⟩) :
 codeAny (model thePw w) A (.call (.ref 246) ⟨[.ref pa],[]⟩) R s:=by
 obtain ⟨ta,n,ea⟩:=ha
 have k:=K.all w (adOf [pa] s.heap) s.toks s.gens.size a ta n
 have f0:adOf [pa] s.heap 0=pa:=adOf_low rfl
 unfold plumaT at k
 rw [f0] at k
 refine call_dn C [pa] [l3 a ta n] (by simp) (by simp [ea]) (by simpa using na) (K.def_ _) lumaF k (fun p hp=>?_) ?_
 · revert p
   refine all_cons ?_ ?_
   · exact mulOk (by decide) (by decide)
   refine all_cons ?_ ?_
   · exact mulOk (by decide) (by decide)
   refine all_cons ?_ ?_
   · exact mulOk (by decide) (by decide)
   exact all_nil
 · intro h' g' t' r T' m' gs e D' _ gb
   simp only [lumaF,Prod.mk.injEq] at e
   obtain ⟨er,eT0⟩:=e
   have kk:Keeps s.heap h':=D'.keeps (l:=[l3 a ta n]) (by simp [ea]) (all1 eT0)
   obtain ⟨tk,rfl⟩:=intOf_some er
   exact hR h' g' t' tk kk D'.size gb
end
end
section
variable [Bs]
noncomputable def dec (b c j:Nat):Nat:=c / b ^ j % b
noncomputable def enc (b:Nat):Nat->(Nat->Nat)->Nat
 | 0,_=>0
 | n + 1,f=>f 0 + b * enc b n fun j=>f (j + 1)
theorem dec_enc (b:Nat):∀ (n:Nat) (f:Nat->Nat),(∀ j,j<n->f j<b)->∀ j,j<n->dec b (enc b n f) j=f j
 | 0,_,_,j,hj=>absurd hj (Nat.not_lt_zero _)
 | n + 1,f,h,0,_=>by
  have h0:=h 0 (Nat.succ_pos n)
  unfold dec enc
  rw [Nat.pow_zero,Nat.div_one,Nat.add_mul_mod_self_left,Nat.mod_eq_of_lt h0]
 | n + 1,f,h,j + 1,hj=>by
  have h0:=h 0 (Nat.succ_pos n)
  have ih:=dec_enc b n (fun j=>f (j + 1)) (fun j hj=>h (j + 1) (by exact om128 hj)) j (by exact om129 hj)
  unfold dec at ih ⊢
  rw [← ih]
  show (f 0 + b * enc b n fun j=>f (j + 1)) / b ^ (j + 1) % b=_
  rw [Nat.pow_succ',← Nat.div_div_eq_div_mul,Nat.add_mul_div_left _ _ (by exact om130 h0),Nat.div_eq_of_lt h0,Nat.zero_add]
theorem dec_all (n:Nat) (f:Nat->Nat):∃ b c,∀ j,j<n->dec b c j=f j:=by
 have:∃ b,∀ j,j<n->f j<b:=by
  induction n with
  | zero=>exact ⟨0,fun j hj=>absurd hj (Nat.not_lt_zero _)⟩
  | succ n ih =>
   obtain ⟨b,hb⟩:=ih
   refine ⟨b + f n + 1,fun j hj=>?_⟩
   by_cases q:j<n
   · have:=hb j q; exact om131 this
   · have:j=n:=by exact om10 hj q
     subst this; exact om132
 obtain ⟨b,hb⟩:=this
 exact ⟨b,enc b n f,dec_enc b n f hb⟩
noncomputable def intsT:List Int->(Nat->Nat)->List Value
 | [],_=>[]
 | a::r,f=>.int a (f 0)::intsT r fun j=>f (j + 1)
noncomputable def strsT:List Str->(Nat->Nat)->List Value
 | [],_=>[]
 | a::r,f=>.str a (f 0)::strsT r fun j=>f (j + 1)
theorem intsT_are:∀ (l:List Int) (f:Nat->Nat),IntsAre (intsT l f) l
 | [],_=>.nil
 | a::r,f=>.cons a (f 0) (intsT_are r _)
theorem intsT_congr:∀ (l:List Int) (f g:Nat->Nat),(∀ j,j<l.length->f j=g j)->intsT l f=intsT l g
 | [],_,_,_=>rfl
 | a::r,f,g,h=>by
  unfold intsT
  rw [h 0 (Nat.succ_pos _),intsT_congr r _ _ fun j hj=>h (j + 1) (Nat.succ_lt_succ hj)]
theorem strsT_congr:∀ (l:List Str) (f g:Nat->Nat),(∀ j,j<l.length->f j=g j)->strsT l f=strsT l g
 | [],_,_,_=>rfl
 | a::r,f,g,h=>by
  unfold strsT
  rw [h 0 (Nat.succ_pos _),strsT_congr r _ _ fun j hj=>h (j + 1) (Nat.succ_lt_succ hj)]
theorem ints_dec {vs:List Value} {l:List Int} (h:IntsAre vs l):∃ b c,vs=intsT l (dec b c):=by
 have:∃ f,vs=intsT l f:=by
  induction h with
  | nil=>exact ⟨fun _=>0,rfl⟩
  | cons n t _ ih =>
   obtain ⟨f,rfl⟩:=ih
   exact ⟨fun j=>match j with | 0=>t | j + 1=>f j,rfl⟩
 obtain ⟨f,rfl⟩:=this
 obtain ⟨b,c,h⟩:=dec_all l.length f
 exact ⟨b,c,intsT_congr _ _ _ fun j hj=>(h j hj).symm⟩
theorem strs_dec {vs:List Value} {l:List Str} (h:StrsAre vs l):∃ b c,vs=strsT l (dec b c):=by
 have:∃ f,vs=strsT l f:=by
  induction h with
  | nil=>exact ⟨fun _=>0,rfl⟩
  | cons n t _ ih =>
   obtain ⟨f,rfl⟩:=ih
   exact ⟨fun j=>match j with | 0=>t | j + 1=>f j,rfl⟩
 obtain ⟨f,rfl⟩:=this
 obtain ⟨b,c,h⟩:=dec_all l.length f
 exact ⟨b,c,strsT_congr _ _ _ fun j hj=>(h j hj).symm⟩
structure LL where
 L:L2
 V:Nat->Nat->Int
 so:Nat->List Int
 S:Nat->List Str
 cut:List Value
noncomputable def Is3 (o:Obj) (α:Nat->Int):Prop:=∃ ta n,o=l3 α ta n
noncomputable def oThree (V:Nat->Int) (f:Nat->Nat) (n:Nat):Obj:=oList [.int (V 0) (f 0),.int (V 1) (f 1),.int (V 2) (f 2)] n
noncomputable def at2 (T:BT) (j k:Nat) (f:Obj->Obj->Option Ct):Option Ct:=match T.get j with
 | some o=>match T.get k with
  | some p=>f o p
  | none=>none
 | none=>none
noncomputable def at1 (T:BT) (j:Nat) (f:Obj->Option Ct):Option Ct:=match T.get j with
 | some o=>f o
 | none=>none
noncomputable def ctTimes (x:LL) (q a b:Nat) (T:BT) (ad:Nat->Nat) (m:Nat) (tk:Nat->Nat) (i:Nat):Option Ct:=at2 T (x.L.jl q) (x.L.kl q) fun oa ob =>
 some ⟨[oThree (x.V q) (fun j=>tk (i + j)) (tk (i + 3))],.ref (ad m),@Eq Nat a (ad (x.L.jl q))∧@Eq Nat b (ad (x.L.kl q))∧∃ α β,Is3 oa α∧Is3 ob β∧Sm α∧∀ j,j<3->x.V q j=times α β j⟩
noncomputable def ctTurned (x:LL) (q a:Nat) (T:BT) (ad:Nat->Nat) (m:Nat) (tk:Nat->Nat) (i:Nat):Option Ct:=at1 T (x.L.jl q) fun oa =>
 some ⟨[oThree (x.V q) (fun j=>tk (i + j)) (tk (i + 3))],.ref (ad m),@Eq Nat a (ad (x.L.jl q))∧∃ α,Is3 oa α∧turnedIs α (x.V q 0) (x.V q 1) (x.V q 2)=true⟩
noncomputable def ctLuma (x:LL) (q a:Nat) (T:BT) (ad:Nat->Nat) (tk:Nat->Nat) (i:Nat):Option Ct:=at1 T (x.L.jl q) fun oa =>
 some ⟨[],.int (x.V q 0) (tk i),@Eq Nat a (ad (x.L.jl q))∧∃ α,Is3 oa α∧lumaIs α (x.V q 0)=true⟩
noncomputable def ctPlu (x:LL) (q a:Nat) (T:BT) (ad:Nat->Nat) (tk:Nat->Nat) (i:Nat):Option Ct:=at1 T (x.L.jl q) fun oa =>
 some ⟨[],.int (x.V q 0) (tk i),@Eq Nat a (ad (x.L.jl q))∧∃ α,Is3 oa α∧x.V q 0=plumaV α⟩
noncomputable def ctRun (x:LL) (q a b:Nat) (T:BT) (ad:Nat->Nat) (m:Nat) (tk:Nat->Nat) (i:Nat):Option Ct:=at2 T (x.L.jl q) (x.L.kl q) fun oa ob =>
 some ⟨[oTup [.str (tx (x.so q)) (tk i),.ref (ad (m + 1))],oThree (x.V q) (dec (tk (i + 1)) (tk (i + 2))) (tk (i + 3))],.ref (ad m),@Eq Nat a (ad (x.L.jl q))∧@Eq Nat b (ad (x.L.kl q))∧x.L.jl q ≠ x.L.kl q∧∃ β r,Is3 oa β∧Is3 ob r∧Sm β∧(∀ j,-100000<r j∧r j<100000)∧x.so q=(tell r 31 [] β).1∧∀ j,j<3->x.V q j=(tell r 31 [] β).2 j⟩
noncomputable def ctPage (x:LL) (q:Nat) (z:Str) (ad:Nat->Nat) (m:Nat) (tk:Nat->Nat) (i:Nat):Option Ct :=
 some ⟨[oList (strsT (x.S q) (dec (tk i) (tk (i + 1)))) (tk (i + 2))],.ref (ad m),∃ told:List Int,z=tx told∧told.length=31∧(∀ d∈told,0≤d∧d<5)∧x.S q=(rowsOf told).map tx⟩
noncomputable def ctSort (x:LL) (q a:Nat) (T:BT) (ad:Nat->Nat) (m:Nat) (tk:Nat->Nat) (i:Nat):Option Ct:=at1 T (x.L.jl q) fun o=>match o.data with
 | .seq ys n=>some ⟨[oList (intsT (x.so q) (dec (tk i) (tk (i + 1)))) (tk (i + 2))],.ref (ad m),@Eq Nat a (ad (x.L.jl q))∧o=oList ys.toList n∧∃ ns,IntsAre ys.toList ns∧ys.toList.length<64∧x.so q=sortI ns⟩
 | _=>none
noncomputable def waysOf (l:List Int):List Int:=(List.range l.length).flatMap fun i=>(List.range (l.length - 1)).map fun m=>(List.range (m + 1)).foldl (fun a k=>a + l.getD ((i + k) % l.length) 0) 0
noncomputable def ctWays (x:LL) (q a:Nat) (T:BT) (ad:Nat->Nat) (m:Nat) (tk:Nat->Nat) (i:Nat):Option Ct:=at1 T (x.L.jl q) fun o=>match o.data with
 | .seq ys n=>some ⟨[oList (intsT (x.so q) (dec (tk i) (tk (i + 1)))) (tk (i + 2))],.ref (ad m),@Eq Nat a (ad (x.L.jl q))∧o=oList ys.toList n∧∃ ns,IntsAre ys.toList ns∧ns.length=6∧x.so q=sortI (waysOf ns)⟩
 | _=>none
noncomputable def ctCut (x:LL) (q a b:Nat) (T:BT) (ad:Nat->Nat) (m:Nat):Option Ct:=at2 T (x.L.jl q) (x.L.kl q) fun oa ob=>match oa.data with
 | .seq ys n=>some ⟨[oList x.cut 0],.ref (ad m),@Eq Nat a (ad (x.L.jl q))∧@Eq Nat b (ad (x.L.kl q))∧oa=oList ys.toList n∧ys.toList.length≤sizeLine∧(∃ t,ob=⟨.type "slice",none,.fields #[.none,.int 2 t,.none],#[]⟩)∧x.cut=ys.toList.take 2⟩
 | _=>none
noncomputable def ctLenS (q:Nat) (z:Str) (tk:Nat->Nat) (i:Nat):Option Ct:=some ⟨[],.int (Int.ofNat z.length) (tk i),z.length<1000⟩
noncomputable def upd (f:Nat->Nat) (m v:Nat) (j:Nat):Nat:=if j=m then v else f j
noncomputable def updK (f:Nat->Nat) (m:Nat) (t:Nat->Nat) (j:Nat):Nat:=if j<m then f j else t (j - m)
theorem upd_self {f:Nat->Nat} {m v:Nat}:upd f m v m=v:=if_pos rfl
theorem upd_ne {f:Nat->Nat} {m v j:Nat} (h:j ≠ m):upd f m v j=f j:=if_neg h
theorem upd_ag {f:Nat->Nat} {m v:Nat}:Agree m f (upd f m v):=fun j hj=>if_neg (by exact om16 hj)
theorem updK_at {f:Nat->Nat} {m:Nat} {t:Nat->Nat} (j:Nat):updK f m t (m + j)=t j:=by
 unfold updK
 rw [if_neg (by exact om133),Nat.add_sub_cancel_left]
theorem updK_0 {f:Nat->Nat} {m:Nat} {t:Nat->Nat}:updK f m t m=t 0:=updK_at 0
theorem updK_ag {f:Nat->Nat} {m:Nat} {t:Nat->Nat}:Agree m f (updK f m t):=fun j hj=>if_pos hj
section
variable {kt:Params->KT} {w:World} {A:Around} {R:Result->Shared->Prop} {s:Shared} {N m₀:Nat} {h₀:Heap} {T:BT} {m i:Nat} {ad tk:Nat->Nat} {x:LL} {q a b:Nat} {y:Ct}
theorem Cas.gb {G G':Array GenState} {h:Heap} (x:Cas G h) (g:GB G G'):Cas G' h:=⟨x.1,x.2.1,g x.2.2⟩
noncomputable def HR (kt:Params->KT) (w:World) (R:Result->Shared->Prop) (s:Shared) (N m i:Nat) (ad tk:Nat->Nat) (f:(Nat->Nat)->(Nat->Nat)->Option Ct):Prop :=
 ∀ h' G' t' (ad' tk':Nat->Nat) x,Agree m ad ad'->Agree i tk tk'->f ad' tk'=some x->KeepsN N s.heap h'->(kt w.params).Holds h' 1 0->Cas G' h'->s.heap.objs.size≤h'.objs.size →
  (∀ j o,x.objs[j]? = some o->h'.get? (ad' (m + j))=some o)->(∀ j,j<x.objs.length->s.heap.objs.size≤ad' (m + j))->(∀ i j,i<x.objs.length->j<x.objs.length->@Eq Nat (ad' (m + i)) (ad' (m + j))->i=j)->R (.ok (.ret x.res)) ⟨h',G',s.drawn,t',s.os⟩
theorem HR.oneN {f:(Nat->Nat)->(Nat->Nat)->Option Ct} (hR:HR kt w R s N m i ad tk f) {h':Heap} {G':Array GenState} {t' p:Nat} {o:Obj} (t:Nat->Nat) (x:Ct) (hx:f (upd ad m p) (updK tk i t)=some x) (hobj:x.objs=[o]) (ho:h'.get? p=some o) (hp:s.heap.objs.size≤p)
 (kp:KeepsN N s.heap h') (hb:(kt w.params).Holds h' 1 0) (hc:Cas G' h') (hs:s.heap.objs.size≤h'.objs.size):R (.ok (.ret x.res)) ⟨h',G',s.drawn,t',s.os⟩:=by
 refine hR h' G' t' _ _ x upd_ag updK_ag hx kp hb hc hs (fun j o' e=>?_) (fun j hj=>?_) fun i j hi hj _=>?_
 · rw [hobj] at e
   match j,e with
   | 0,e =>
    cases e
    rw [Nat.add_zero,upd_self]
    exact ho
 · rw [hobj] at hj
   have hj:j<1:=hj
   obtain rfl:j=0:=by exact om134 hj
   rw [Nat.add_zero,upd_self]
   exact hp
 · rw [hobj] at hi hj
   have hi:i<1:=hi
   have hj:j<1:=hj
   exact om135 hi hj
theorem HR.one {f:(Nat->Nat)->(Nat->Nat)->Option Ct} (hR:HR kt w R s N m i ad tk f) (Rp:Rep2 (kt w.params) N (Cas s.gens) ad h₀ m₀ s.heap T m) {h':Heap} {G':Array GenState} {t' p:Nat} {o:Obj} (t:Nat->Nat) (x:Ct) (hx:f (upd ad m p) (updK tk i t)=some x) (hobj:x.objs=[o]) (ho:h'.get? p=some o) (hp:s.heap.objs.size≤p) (kp:Keeps s.heap h') (gb:GB s.gens G'):R (.ok (.ret x.res)) ⟨h',G',s.drawn,t',s.os⟩ :=
 hR.oneN t x hx hobj ho hp (fun b o _ e=>kp b o e) (KT.Holds.keeps kp Rp.base) ((Rp.stb _ _ (fun b o _ e=>kp b o e) Rp.inv).gb gb) (Nat.le_of_lt (Nat.lt_of_le_of_lt hp (Heap.lt_size ho)))
theorem HR.zero {f:(Nat->Nat)->(Nat->Nat)->Option Ct} (hR:HR kt w R s N m i ad tk f) (Rp:Rep2 (kt w.params) N (Cas s.gens) ad h₀ m₀ s.heap T m) {h':Heap} {G':Array GenState} {t':Nat} (t:Nat->Nat) (x:Ct) (hx:f ad (updK tk i t)=some x) (hobj:x.objs=[]) (kp:Keeps s.heap h') (hs:s.heap.objs.size≤h'.objs.size) (gb:GB s.gens G'):R (.ok (.ret x.res)) ⟨h',G',s.drawn,t',s.os⟩:=by
 refine hR h' G' t' _ _ x (Agree.refl _ _) updK_ag hx (fun b o _ e=>kp b o e) (KT.Holds.keeps kp Rp.base) ((Rp.stb _ _ (fun b o _ e=>kp b o e) Rp.inv).gb gb) hs (fun j o' e=>?_) (fun j hj=>?_) fun i j hi hj _=>?_
 · rw [hobj] at e; simp at e
 · rw [hobj] at hj; exact absurd hj (Nat.not_lt_zero _)
 · rw [hobj] at hi; exact absurd hi (Nat.not_lt_zero _)
theorem i3_of {h:Heap} {p:Nat} {o:Obj} {α:Nat->Int} (e:h.get? p=some o) (h3:Is3 o α):I3 h p α:=by
 obtain ⟨ta,n,rfl⟩:=h3
 exact ⟨ta,n,e⟩
noncomputable def tk4 (ta:Nat->Nat) (n:Nat) (j:Nat):Nat:=match j with
 | 3=>n
 | j=>ta j
theorem three_of {V:Nat->Int} {α:Nat->Int} (h:∀ j,j<3->V j=α j) (ta:Nat->Nat) (n:Nat) {f:Nat->Nat} (hf:∀ j,j<3->f j=ta j) {n':Nat} (hn:n'=n):oThree V f n'=l3 α ta n:=by
 unfold oThree l3
 rw [h 0 (by decide),h 1 (by decide),h 2 (by decide),hf 0 (by decide),hf 1 (by decide),hf 2 (by decide),hn]
theorem times_ct (K:TimesK kt) (Rp:Rep2 (kt w.params) N (Cas s.gens) ad h₀ m₀ s.heap T m) (C:Cx (kt w.params) N 210 A s.heap) (ey:ctTimes x q a b T ad m tk i=some y) (hφ:y.φ) (hR:HR kt w R s N m i ad tk fun ad' tk'=>ctTimes x q a b T ad' m tk' i) :
 codeAny (model thePw w) A (.call (.ref 232) ⟨[.ref a,.ref b],[]⟩) R s:=by
 unfold ctTimes at2 at ey
 split at ey
 · rename_i oa ha
   split at ey
   · rename_i ob hb
     cases ey
     obtain ⟨rfl,rfl,α,β,h1,h2,h3,h4⟩:=hφ
     refine times_c K C (i3_of (Rp.own _ _ ha).2 h1) (i3_of (Rp.own _ _ hb).2 h2) (Rp.off _ (Rp.own _ _ ha).1) (Rp.off _ (Rp.own _ _ hb).1) h3 ?_
     intro h' g' t' p kp ZZ hp gb
     obtain ⟨ta,n,e⟩:=ZZ
     have z:=hR.one (p:=p) (G':=g') (t':=t') Rp (tk4 ta n) _ (by unfold ctTimes at2; simp only [ha,hb]; rfl) rfl (by
      rw [e]
      exact congrArg some (three_of h4 ta n (fun j hj=>by rw [updK_at]; match j,hj with | 0,_ | 1,_ | 2,_=>rfl) (updK_at 3)).symm) hp kp gb
     rw [upd_self] at z
     exact z
   · cases ey
 · cases ey
theorem turned_ct (K:∀ p∈turnedPs,TurnedEq kt p) (hp:∀ P,(defAt (kt P) 225).isSome=true) (Rp:Rep2 (kt w.params) N (Cas s.gens) ad h₀ m₀ s.heap T m) (C:Cx (kt w.params) N 210 A s.heap) (ey:ctTurned x q a T ad m tk i=some y) (hφ:y.φ) (hR:HR kt w R s N m i ad tk fun ad' tk'=>ctTurned x q a T ad' m tk' i) :
 codeAny (model thePw w) A (.call (.ref 225) ⟨[.ref a],[]⟩) R s:=by
 unfold ctTurned at1 at ey
 split at ey
 · rename_i oa ha
   cases ey
   obtain ⟨rfl,α,h1,h2⟩:=hφ
   refine turned_c K hp C (i3_of (Rp.own _ _ ha).2 h1) (Rp.off _ (Rp.own _ _ ha).1) h2 ?_
   intro h' g' t' p kp ZZ hp gb
   obtain ⟨ta,n,e⟩:=ZZ
   have z:=hR.one (p:=p) (G':=g') (t':=t') Rp (tk4 ta n) _ (by unfold ctTurned at1; simp only [ha]; rfl) rfl (by
    rw [e]
    exact congrArg some (three_of (V:=x.V q) (α:=v3 (x.V q 0) (x.V q 1) (x.V q 2)) (fun j hj=>match j,hj with | 0,_ | 1,_ | 2,_=>rfl) ta n (fun j hj=>by rw [updK_at]; match j,hj with | 0,_ | 1,_ | 2,_=>rfl) (updK_at 3)).symm) hp kp gb
   rw [upd_self] at z
   exact z
 · cases ey
theorem luma_ct (K:LumaK kt) (hp:∀ P,(defAt (kt P) 239).isSome=true) (Rp:Rep2 (kt w.params) N (Cas s.gens) ad h₀ m₀ s.heap T m) (C:Cx (kt w.params) N 210 A s.heap) (ey:ctLuma x q a T ad tk i=some y) (hφ:y.φ) (hR:HR kt w R s N m i ad tk fun ad' tk'=>ctLuma x q a T ad' tk' i) :
 codeAny (model thePw w) A (.call (.ref 239) ⟨[.ref a],[]⟩) R s:=by
 unfold ctLuma at1 at ey
 split at ey
 · rename_i oa ha
   cases ey
   obtain ⟨rfl,α,h1,h2⟩:=hφ
   refine luma_c K hp C (i3_of (Rp.own _ _ ha).2 h1) (Rp.off _ (Rp.own _ _ ha).1) h2 ?_
   intro h' g' t' t0 kp hs gb
   have z:=hR.zero (G':=g') (t':=t') Rp (fun _=>t0) _ (by unfold ctLuma at1; simp only [ha]; rfl) rfl kp hs gb
   rw [updK_0] at z
   exact z
 · cases ey
theorem plu_ct (K:PlumaK kt) (Rp:Rep2 (kt w.params) N (Cas s.gens) ad h₀ m₀ s.heap T m) (C:Cx (kt w.params) N 210 A s.heap) (ey:ctPlu x q a T ad tk i=some y) (hφ:y.φ) (hR:HR kt w R s N m i ad tk fun ad' tk'=>ctPlu x q a T ad' tk' i) :
 codeAny (model thePw w) A (.call (.ref 246) ⟨[.ref a],[]⟩) R s:=by
 unfold ctPlu at1 at ey
 split at ey
 · rename_i oa ha
   cases ey
   obtain ⟨rfl,α,h1,h2⟩:=hφ
   refine pluma_c K C (i3_of (Rp.own _ _ ha).2 h1) (Rp.off _ (Rp.own _ _ ha).1) ?_
   intro h' g' t' t0 kp hs gb
   have z:=hR.zero (G':=g') (t':=t') Rp (fun _=>t0) _ (by unfold ctPlu at1; simp only [ha]; rfl) rfl kp hs gb
   rw [updK_0] at z
   rw [← h2]
   exact z
 · cases ey
theorem run_ct (K:RunK kt) (ht:Tab (kt w.params) w) (Rp:Rep2 (kt w.params) N (Cas s.gens) ad h₀ m₀ s.heap T m) (C:Cx (kt w.params) N 215 A s.heap) (ey:ctRun x q a b T ad m tk i=some y) (hφ:y.φ) (hR:HR kt w R s N m i ad tk fun ad' tk'=>ctRun x q a b T ad' m tk' i) :
 codeAny (model thePw w) A (.call (.ref 251) ⟨[.ref a,.ref b],[]⟩) R s:=by
 unfold ctRun at2 at ey
 split at ey
 · rename_i oa ha
   split at ey
   · rename_i ob hb
     cases ey
     obtain ⟨rfl,rfl,hjk,β,r,h1,h2,h3,h4,h5,h6⟩:=hφ
     refine run_c K ht h4 C (i3_of (Rp.own _ _ ha).2 h1) (i3_of (Rp.own _ _ hb).2 h2) (Rp.off _ (Rp.own _ _ ha).1) (Rp.off _ (Rp.own _ _ hb).1) (fun e=>hjk (Rp.inj _ _ (Rp.own _ _ ha).1 (Rp.own _ _ hb).1 e)) h3 ?_
     intro h' g' t' p e tt kp ep ZZ hp he hb' gb
     obtain ⟨ta,n,ee⟩:=ZZ
     obtain ⟨c1,c2,hc⟩:=dec_all 3 ta
     have hpe:@Ne Nat p e:=fun q=>by
      have q':h'.get? p=h'.get? e:=congrArg _ q
      rw [ep,ee] at q'
      injection q' with q'
      injection q' with q1
      revert q1
      decide
     have hs:s.heap.objs.size≤h'.objs.size:=Nat.le_of_lt (Nat.lt_of_le_of_lt hp (Heap.lt_size ep))
     have a0:upd (upd ad m p) (m + 1) e m=p:=by rw [upd_ne (by exact om136),upd_self]
     have a1:upd (upd ad m p) (m + 1) e (m + 1)=e:=upd_self
     have z:=hR h' g' t' (upd (upd ad m p) (m + 1) e) (updK tk i fun j=>match j with | 0=>tt | 1=>c1 | 2=>c2 | _=>n) _ (fun j hj=>by rw [upd_ne (by exact om137 hj),upd_ne (by exact om138 hj)]) updK_ag (by unfold ctRun at2; simp only [ha,hb]; rfl) (fun b o _ e=>kp b o e) (KT.Holds.keeps kp Rp.base) ((Rp.stb _ _ (fun b o _ e=>kp b o e) Rp.inv).gb gb) hs (fun j o' ej=>?_) (fun j hj=>?_) (fun i' j hi hj eq=>?_)
     · rw [a0] at z
       exact z
     · match j,ej with
       | 0,ej =>
        cases ej
        show h'.get? (upd (upd ad m p) (m + 1) e m)=_
        rw [a0,ep,a1,h5,updK_0]
        rfl
       | 1,ej =>
        cases ej
        rw [a1,ee]
        exact congrArg some (three_of h6 ta n (fun j hj=>by rw [updK_at 1,updK_at 2]; exact hc j hj) (updK_at 3)).symm
     · have hj:j<2:=hj
       match j,hj with
       | 0,_=>show _≤upd (upd ad m p) (m + 1) e m; rw [a0]; exact hp
       | 1,_=>rw [a1]; exact he
     · have hi:i'<2:=hi
       have hj:j<2:=hj
       match i',j,hi,hj with
       | 0,0,_,_=>rfl
       | 1,1,_,_=>rfl
       | 0,1,_,_=>exact absurd (a0.symm.trans (Eq.trans eq a1)) hpe
       | 1,0,_,_=>exact absurd (a0.symm.trans (Eq.trans (Eq.symm eq) a1)) hpe
   · cases ey
 · cases ey
theorem page_ct (K:GenK kt) (L:LenK kt) (KP:PageK kt) (ht:Tab (kt w.params) w) (T0:TopOk (kt w.params) N) (Rp:Rep2 (kt w.params) N (Cas s.gens) ad h₀ m₀ s.heap T m) (hA:A.handled=none) (hd:A.depth + 335<recursionLimit) (hu:A.units + 330<cLine) (hN:N≤s.heap.objs.size) {z:Str} {t0:Nat} (ey:ctPage x q z ad m tk i=some y) (hφ:y.φ) (hR:HR kt w R s N m i ad tk fun ad' tk'=>ctPage x q z ad' m tk' i) :
 codeAny (model thePw w) A (.call (.ref 258) ⟨[.str z t0],[]⟩) R s:=by
 unfold ctPage at ey
 cases ey
 obtain ⟨told,rfl,h1,h2,h3⟩:=hφ
 refine page_c K L KP ht T0 hA hd hu Rp.base hN Rp.inv h1 h2 ?_
 intro h' G' t' p vs n e hvs hp kp hb hc hs
 rw [← h3] at hvs
 obtain ⟨b,c,rfl⟩:=strs_dec hvs
 have z:=hR.oneN (p:=p) (G':=G') (t':=t') (fun j=>match j with | 0=>b | 1=>c | _=>n) _ (by unfold ctPage; rfl) rfl (by
  rw [e,updK_0,updK_at 1,updK_at 2]; rfl) hp kp hb hc hs
 rw [upd_self] at z
 exact z
theorem sort_ct (Rp:Rep2 (kt w.params) N (Cas s.gens) ad h₀ m₀ s.heap T m) (ey:ctSort x q a T ad m tk i=some y) (hφ:y.φ) (hR:HR kt w R s N m i ad tk fun ad' tk'=>ctSort x q a T ad' m tk' i) :
 codeAny (model thePw w) A (.call (.builtin "sorted") ⟨[.ref a],[]⟩) R s:=by
 unfold ctSort at1 at ey
 split at ey
 · rename_i o ho
   dsimp only at ey
   split at ey
   · rename_i ys n hd
     cases ey
     obtain ⟨rfl,hoo,ns,h1,h2,h3⟩:=hφ
     refine sorted_c (by rw [(Rp.own _ _ ho).2,← hoo]) h1 h2 ?_
     intro h' p out ns' n' e h4 h5 h6 kp hp _
     rw [eq_sortI h5 h6,← h3] at h4
     obtain ⟨b,c,rfl⟩:=ints_dec h4
     have z:=hR.one (p:=p) (G':=s.gens) (t':=s.toks) Rp (fun j=>match j with | 0=>b | 1=>c | _=>n') _ (by unfold ctSort at1; simp only [ho,hd]; rfl) rfl (by
      rw [e,updK_0,updK_at 1,updK_at 2]; rfl) hp kp (GB.refl _)
     rw [upd_self] at z
     exact z
   · cases ey
 · cases ey
theorem lenS_ct {z:Str} {t0:Nat} (Rp:Rep2 (kt w.params) N (Cas s.gens) ad h₀ m₀ s.heap T m) (ey:ctLenS q z tk i=some y) (hφ:y.φ) (hR:HR kt w R s N m i ad tk fun _ tk'=>ctLenS q z tk' i) :
 codeAny (model thePw w) A (.call (.builtin "len") ⟨[.str z t0],[]⟩) R s:=by
 unfold ctLenS at ey
 cases ey
 have hφ:z.length<1000:=hφ
 refine code_entry kind_len plain_len entry_len (args_len1 _) ?_
 unfold Builtin.«len»
 refine wpAny_bind (m:=oneArg "len" _) (wpAny_pure ?_)
 refine wpAny_bind (m:=callSpecial? (.str z t0) (Str.ofString "__len__")) (wpAny_callSpecial?_slot (name:=Str.ofString "__len__") (typeIs_str s z t0) F.slot_str_len (call_gives F.slot_str_len (typeIs_str s z t0) F.entry_str_len (F.args_str_len_1 _) (gives_str_len z t0) ?_))
 show wpAny _ _ _ _ _ { s with toks:=s.toks + 1 }
 refine wpAny_bind (wpAny_holding (wpAny_pure ?_))
 refine wpAny_bind (wpAny_letGo ?_)
 show wpAny _ _ (if (z.length:Int)<0 then _ else _) _ _ _
 rw [if_neg (by exact om139)]
 show wpAny _ _ (if (z.length:Int) ≥ 2 ^ 63 then _ else _) _ _ _
 rw [if_neg (by omega)]
 refine wpAny_bind (wpAny_mkInt (wpAny_pure ⟨_,rfl,?_⟩))
 have zz:=hR.zero (h':=s.heap) (G':=s.gens) (t':=s.toks + 1 + 1) Rp (fun _=>s.toks + 1) _ (by unfold ctLenS; rfl) rfl (fun _ _ e=>e) (Nat.le_refl _) (GB.refl _)
 rw [updK_0] at zz
 exact zz
theorem check_sum1 (l:Nat):checkBuiltinCall "sum" ⟨[.ref l],[]⟩=pure ():=by kernel_rfl
theorem sumL_c {l:Nat} {vs:List Value} {ns:List Int} {n:Nat} (hA:A.handled=none) (hl:s.heap.get? l=some (oList vs n)) (hI:IntsAre vs ns)
 (hR:∀ h' tk t',Keeps s.heap h'->R (.ok (.ret (.int ns.sum t'))) { s with heap:=h',toks:=tk }):codeAny (model thePw w) A (.call (.builtin "sum") ⟨[.ref l],[]⟩) R s:=by
 obtain ⟨xs,hx⟩:=hI.allInts.items
 have hL:s.heap.IsList l (intItems xs):=by rw [← hx]; exact ⟨_,hl,rfl,n,rfl⟩
 have hs:preSum (numAt xs) xs.size=ns.sum:=by
  have:=hI.numsOf
  rw [show vs=vs.toArray.toList from rfl,hx,nums_intItems,preSum_eq,List.take_of_length_le (by simp)] at *
  exact congrArg List.sum this
 refine codeAny_call_builtin F.plain_sum F.entry_sum ?_
 rw [show checkBuiltinCall "sum" ⟨[.ref l],[]⟩=pure () from check_sum1 l]
 refine wpAny_pure ?_
 unfold Builtin.«sum»
 simp only [List.length_cons,List.length_nil]
 rw [if_neg (by decide)]
 refine wpAny_bind (wpAny_of_eq (show Builtin.Builtins.bindParams "sum" ["start"] 0 { } = pure [none] from rfl) ?_)
 refine wpAny_bind (iter_intList hL fun s₂ e st hfp hlI=>?_)
 subst e
 refine wpAny_bind (wpAny_mkInt ?_)
 refine wpAny_bind (wpAny_pure ?_)
 simp only [List.forIn_cons,List.forIn_nil]
 refine wpAny_bind (wpAny_bind (wpAny_bind (wpAny_isInstance (T:="int") (b:=false) (typeIs_int _ _ _) PySem.sub_int_str ?_)))
 simp only [Bool.false_eq_true,if_false]
 refine wpAny_pure (wpAny_bind (wpAny_bind (wpAny_isInstance (T:="int") (b:=false) (typeIs_int _ _ _) sub_int_bytes ?_)))
 simp only [Bool.false_eq_true,if_false]
 refine wpAny_pure (wpAny_bind (wpAny_bind (wpAny_isInstance (T:="int") (b:=false) (typeIs_int _ _ _) sub_int_bytearray ?_)))
 simp only [Bool.false_eq_true,if_false]
 refine wpAny_pure (wpAny_pure ?_)
 refine wpAny_bind (wpAny_newObj_type ?_)
 have W:=Walks.list (prog:=thePw) (w:=w) (A:=A.in1) hA s.heap.objs.size l hlI (intItems xs)
 refine wpAny_pure ⟨plainId_quiet F.plain_sum_loop _,codeAny_sum_loopG W (numAt xs) (fun _ _=>intItems_at) _ (fun hm=>Nat.lt_irrefl _ (hfp _ hm)) _ 0 _ s.toks 0 0 (Or.inl rfl) rfl (Nat.zero_le _)
  (W.frame _ _ _ st fun b _ o e=>Heap.get?_push_of_some _ e) (Heap.get?_push_size _ rfl) fun h' tk t' hk=>?_⟩
 have sz:(intItems xs).size=xs.size:=by simp [intItems]
 rw [sz,hs]
 exact hR h' tk t' (old_kept fun b o hb e=>hk b o hb (Nat.ne_of_lt (Heap.lt_size e)) (Heap.get?_push_of_some _ e))
theorem cut_c {l sl:Nat} {vs:List Value} {n t:Nat} (hl:s.heap.get? l=some (oList vs n)) (hs:s.heap.get? sl=some ⟨.type "slice",none,.fields #[.none,.int 2 t,.none],#[]⟩) (hsz:vs.length≤sizeLine)
 (hR:R (.ok (.ret (.ref s.heap.objs.size))) { s with heap:=s.heap.push (oList (vs.take 2) 0) }) :
 codeAny (model thePw w) A (.call (.builtin "list.__getitem__") ⟨[.ref l,.ref sl],[]⟩) R s:=by
 have hL:s.heap.IsList l vs.toArray:=⟨_,hl,rfl,n,rfl⟩
 have hTs:s.TypeIs (.ref sl) "slice":=⟨_,hs,rfl⟩
 refine codeAny_call_builtin slot_list_getitem.plain entry_list_getitem (slot_list_getitem.check _ _ _ _ _ _ _ _ hL.typeIs (args_list_getitem _ _) ?_)
 show wpAny _ _ (Builtin.List.listSubscript? (.ref sl) >>= _) _ _ s
 refine wpAny_bind ?_
 unfold Builtin.List.listSubscript?
 refine wpAny_bind (wpAny_specialOf hTs slice_no_index ?_)
 simp only [Option.isNone_none,if_true]
 refine wpAny_pure ?_
 show wpAny _ _ (typeOf (.ref sl) >>= _) _ _ s
 refine wpAny_bind (wpAny_typeOf hTs ?_)
 rw [if_neg (by decide)]
 rw [listSliceParts_eq]
 have hstep:¬ ((rawPart none == rawInt 0)=true):=Bool.false_ne_true
 refine wpAny_bind (wpAny_bind (wpAny_field hs rfl (x:=.none) rfl (wpAny_bind (wpAny_listPart .none ?_))))
 rw [if_neg hstep]
 refine wpAny_bind (wpAny_field hs rfl (x:=.none) rfl (wpAny_bind (wpAny_listPart .none ?_)))
 refine wpAny_bind (wpAny_field hs rfl (x:=.int 2 t) rfl (wpAny_bind (wpAny_listPart (.int 2 t) (wpAny_pure ?_))))
 refine wpAny_bind (m:=Builtin.List.listItems (.ref l)) ?_
 unfold Builtin.List.listItems
 refine wpAny_bind (wpAny_seqItems hl rfl (wpAny_pure ?_))
 refine wpAny_bind (wpAny_of_eq (sliceIndices_raw none (some 2) none vs.toArray.size (by simp)) ?_)
 refine wpAny_bind (wpAny_newObj_type (wpAny_pure ?_) (Nat.le_trans (slicePick_size_le vs.toArray none (some 2) none) hsz))
 have e:slicePick vs.toArray none (some 2) none=(vs.take 2).toArray:=by
  match vs with
  | []=>rfl
  | [v] =>
   show ((sliceRange (sliceBounds none (some 2) none 1).1 (sliceBounds none (some 2) none 1).2.1 (sliceBounds none (some 2) none 1).2.2).filterMap fun i=>#[v][i]?).toArray=_
   rw [show sliceRange (sliceBounds none (some 2) none 1).1 (sliceBounds none (some 2) none 1).2.1 (sliceBounds none (some 2) none 1).2.2=[0] by decide]
   rfl
  | x::y::r=>exact slicePick_upto (x::y::r).toArray 2 (by simp)
 show R _ { s with heap:=s.heap.push ⟨.type "list",none,.seq (slicePick vs.toArray none (some 2) none) 0,#[]⟩ }
 rw [e]
 exact hR
theorem cut_ct (Rp:Rep2 (kt w.params) N (Cas s.gens) ad h₀ m₀ s.heap T m) (ey:ctCut x q a b T ad m=some y) (hφ:y.φ) (hR:HR kt w R s N m i ad tk fun ad' _=>ctCut x q a b T ad' m) :
 codeAny (model thePw w) A (.call (.builtin "list.__getitem__") ⟨[.ref a,.ref b],[]⟩) R s:=by
 unfold ctCut at2 at ey
 split at ey
 · rename_i oa ha
   split at ey
   · rename_i ob hb
     dsimp only at ey
     split at ey
     · rename_i ys n hd
       cases ey
       obtain ⟨rfl,rfl,hoo,h1,⟨t,h2⟩,h3⟩:=hφ
       refine cut_c (vs:=ys.toList) (n:=n) (by rw [(Rp.own _ _ ha).2,← hoo]) (by rw [(Rp.own _ _ hb).2,h2]) h1 ?_
       have z:=hR.one (p:=s.heap.objs.size) (G':=s.gens) (t':=s.toks) (h':=s.heap.push (oList (ys.toList.take 2) 0)) Rp (fun _=>0) _ (by unfold ctCut at2; simp only [ha,hb,hd]; rfl) rfl (by
        rw [h3]; exact Heap.get?_push_size _ rfl) (Nat.le_refl _) (fun b o e=>Heap.get?_push_of_some _ e) (GB.refl _)
       rw [upd_self] at z
       exact z
     · cases ey
   · cases ey
 · cases ey
end
end
section
variable [Bs]
noncomputable def spEq:Sp2T:=fun q c _ _=>match xbL (xl2 xvs xvs) c with
 | some (id,x,y)=>match isId id "str.__eq__" with
  | true=>yesNo q fun r=>(x.1.cps.toList == y.1.cps.toList)=r
  | false=>none
 | none=>none
section
variable {kt:KT} {w:World} {D N:Nat} {I:Array GenState->Heap->Prop} {h₀:Heap} {m₀:Nat}
theorem spEq_ok {prog:Program}:Sp2Ok prog w kt D N I h₀ m₀ spEq:=by
 intro q c T ad p e
 refine ⟨fun _ _=>e,?_⟩
 unfold spEq at e
 split at e
 · obtain rfl:=bs2_some (by assumption)
   split at e
   · rename_i hid
     obtain rfl:=isId_eq hid
     obtain ⟨r,rfl⟩:=yesNo_some e
     intro hv A R s m _ _ _ _ x
     refine spV F.entry_str_eq (by decide +kernel) (gives_str_eq _ _ _ _) ?_
     rw [show (_ == _)=r from hv]
     exact x
   · cases e
 · cases e
end
noncomputable def initG:{ G:(Value->Value->Bool)->Args->Sem Fin // PySem.W.Fast.tw7929263774796372950=G Builtin.List.listSameRef }:=by
 refine ⟨?G,?h⟩
 case h =>
  unfold PySem.W.Fast.tw7929263774796372950 PySem.W.Fast.tw8938917530802602619
  generalize Builtin.List.listSameRef=f
  exact rfl
theorem initG_args (f:Value->Value->Bool) (a b:Addr):initG.1 f ⟨[.ref a,.ref b],[]⟩=initG.1 (fun _ _=>f (.ref a) (.ref b)) ⟨[.ref a,.ref b],[]⟩:=by
 kernel_rfl
theorem initG_eq {a b:Addr} (h:a ≠ b):Builtin.«list.__init__» ⟨[.ref a,.ref b],[]⟩=initG.1 (fun _ _=>false) ⟨[.ref a,.ref b],[]⟩:=by
 have f:Builtin.List.listSameRef (.ref a) (.ref b)=false:=by
  show (a == b)=false
  simpa using h
 have e:=(congrFun (PySem.W.Fast.te7929263774796372950.trans initG.2) ⟨[.ref a,.ref b],[]⟩).trans (initG_args _ a b)
 rw [f] at e
 exact e
noncomputable def spInit (L:L2):Sp2T:=fun q c T ad=>match xbL (xl2 xvr xvr) c with
 | some (id,a,b)=>match isId id "list.__init__" with
  | true=>match T.get (L.jl q) with
   | some _=>match T.get (L.kl q) with
    | some _=>some (initG.1 (fun _ _=>false) ⟨[.ref a,.ref b],[]⟩,@Eq Nat a (ad (L.jl q))∧@Eq Nat b (ad (L.kl q))∧¬ L.jl q=L.kl q)
    | none=>none
   | none=>none
  | false=>none
 | none=>none
section
variable {kt:KT} {w:World} {D N:Nat} {I:Array GenState->Heap->Prop} {h₀:Heap} {m₀:Nat}
theorem spInit_ok {L:L2} {prog:Program}:Sp2Ok prog w kt D N I h₀ m₀ (spInit L):=by
 intro q c T ad p e
 unfold spInit at e
 split at e
 · obtain rfl:=b2_some (by assumption)
   split at e
   · rename_i hid
     split at e
     · rename_i o ho
       split at e
       · rename_i ob hob
         cases e
         obtain rfl:=isId_eq hid
         refine ⟨fun ad' h=>?_,fun ⟨ea,eb,hne⟩ A R s m hA _ _ D x=>?_⟩
         · unfold spInit
           simp only [b2_eq,hid,ho,hob,h _ _ ho,h _ _ hob]
         · have nab:¬ ad (L.jl q)=ad (L.kl q):=fun q'=>hne (D.inj _ _ (D.own _ _ ho).1 (D.own _ _ hob).1 q')
           rw [← ea,← eb] at nab
           refine codeOwn_builtin F.entry_list_init ?_
           rw [initG_eq nab]
           exact x
       · cases e
     · cases e
   · cases e
 · cases e
end
noncomputable def spL (L:L2) (kt:KT) (w:World):Sp2T:=orSp spEq (orSp (spInit L) (spP L kt w))
section
variable {kt:KT} {w:World} {D N:Nat} {I:Array GenState->Heap->Prop} {h₀:Heap} {m₀:Nat}
theorem spL_ok {L:L2}:Sp2Ok thePw w kt D N I h₀ m₀ (spL L kt w):=orSp_ok spEq_ok (fun q c T ad ad' _ h=>h) (orSp_ok spInit_ok (fun q c T ad ad' _ h=>isSome_ag (fun q c T ad ad'=>by
 unfold spInit
 repeat' split
 all_goals rfl) h) spP_ok)
end
noncomputable def ctS (x:LL):Nat->Code->BT->(Nat->Nat)->Nat->(Nat->Nat)->Nat->Option Ct:=fun q c T ad m tk i=>match xcL (xl1 xvr) c with
 | some (f,a)=>match f with
  | .builtin id=>match isId id "sorted" with
   | true=>ctSort x q a T ad m tk i
   | false=>none
  | _=>none
 | none=>none
noncomputable def mkS (x:LL) (kt:KT) (w:World):En2:=⟨spP x.L kt w,ctS x,⟨PySem.Challenge.pw_tr0064_01,w.params⟩,kt⟩
noncomputable def ctL2 (x:LL) (q:Nat) (f:Value) (a b:Addr) (T:BT) (ad:Nat->Nat) (m:Nat) (tk:Nat->Nat) (i:Nat):Option Ct:=match f with
 | .ref g=>match Nat.beq g 232 with
  | true=>ctTimes x q a b T ad m tk i
  | false=>match Nat.beq g 251 with
   | true=>ctRun x q a b T ad m tk i
   | false=>none
 | .builtin id=>match isId id "list.__getitem__" with
  | true=>ctCut x q a b T ad m
  | false=>none
 | _=>none
noncomputable def ctL1 (x:LL) (q:Nat) (f:Value) (a:Addr) (T:BT) (ad:Nat->Nat) (m:Nat) (tk:Nat->Nat) (i:Nat):Option Ct:=match f with
 | .ref g=>match Nat.beq g 225 with
  | true=>ctTurned x q a T ad m tk i
  | false=>match Nat.beq g 239 with
   | true=>ctLuma x q a T ad tk i
   | false=>match Nat.beq g 246 with
    | true=>ctPlu x q a T ad tk i
    | false=>match Nat.beq g 265 with
     | true=>ctWays x q a T ad m tk i
     | false=>none
 | .builtin id=>match isId id "sorted" with
  | true=>ctSort x q a T ad m tk i
  | false=>none
 | _=>none
noncomputable def ctLs (x:LL) (q:Nat) (f:Value) (z:Str) (ad:Nat->Nat) (m:Nat) (tk:Nat->Nat) (i:Nat):Option Ct:=match f with
 | .ref g=>match Nat.beq g 258 with
  | true=>ctPage x q z ad m tk i
  | false=>none
 | .builtin id=>match isId id "len" with
  | true=>ctLenS q z tk i
  | false=>none
 | _=>none
noncomputable def ctL (x:LL):Nat->Code->BT->(Nat->Nat)->Nat->(Nat->Nat)->Nat->Option Ct:=fun q c T ad m tk i=>match xcL (xl2 xvr xvr) c with
 | some (f,a,b)=>ctL2 x q f a b T ad m tk i
 | none=>match xcL (xl1 xvr) c with
  | some (f,a)=>ctL1 x q f a T ad m tk i
  | none=>match xcL (xl1 xvs) c with
   | some (f,z)=>ctLs x q f z.1 ad m tk i
   | none=>none
noncomputable def mkL (x:LL) (kt:KT) (w:World):En2:=⟨spL x.L kt w,ctL x,⟨PySem.Challenge.pw_tr0064_01,w.params⟩,kt⟩
section
variable {w:World} {T:BT} {m i:Nat} {ad ad' tk tk':Nat->Nat} {x:LL} {q a b:Nat} {y:Ct}
theorem at1_cong {f g:Obj->Option Ct} {j:Nat} (hT:∀ j y,T.get j=some y->j<m) (h:at1 T j f=some y) (k:j<m->∀ o,f o=some y->g o=some y):at1 T j g=some y:=by
 unfold at1 at h ⊢
 cases e:T.get j with
 | none=>rw [e] at h; cases h
 | some o=>rw [e] at h; exact k (hT _ _ e) o h
theorem at2_cong {f g:Obj->Obj->Option Ct} {j l:Nat} (hT:∀ j y,T.get j=some y->j<m) (h:at2 T j l f=some y) (k:j<m->l<m->∀ o p,f o p=some y->g o p=some y):at2 T j l g=some y:=by
 unfold at2 at h ⊢
 cases e:T.get j with
 | none=>rw [e] at h; cases h
 | some o =>
  rw [e] at h
  cases e2:T.get l with
  | none=>rw [e2] at h; cases h
  | some p=>rw [e2] at h; exact k (hT _ _ e) (hT _ _ e2) o p h
theorem ctTimes_cong (hT:∀ j y,T.get j=some y->j<m) (e:ctTimes x q a b T ad m tk i=some y) (ha:Agree (m + y.objs.length) ad ad') (ht:Agree (i + 4) tk tk'):ctTimes x q a b T ad' m tk' i=some y:=by
 refine at2_cong hT e fun h1 h2 o p e=>?_
 cases e
 have ha:Agree (m + 1) ad ad':=ha
 rw [ha (x.L.jl q) (by exact om36 h1),ha (x.L.kl q) (by exact om36 h2),ha m (by exact om144),ht (i + 3) (by exact om145)]
 unfold oThree
 simp only [ht (i + 0) (by exact om146),ht (i + 1) (by exact om147),ht (i + 2) (by exact om148)]
theorem ctTurned_cong (hT:∀ j y,T.get j=some y->j<m) (e:ctTurned x q a T ad m tk i=some y) (ha:Agree (m + y.objs.length) ad ad') (ht:Agree (i + 4) tk tk'):ctTurned x q a T ad' m tk' i=some y:=by
 refine at1_cong hT e fun h1 o e=>?_
 cases e
 have ha:Agree (m + 1) ad ad':=ha
 rw [ha (x.L.jl q) (by exact om36 h1),ha m (by exact om144),ht (i + 3) (by exact om145)]
 unfold oThree
 simp only [ht (i + 0) (by exact om146),ht (i + 1) (by exact om147),ht (i + 2) (by exact om148)]
theorem ctLuma_cong (hT:∀ j y,T.get j=some y->j<m) (e:ctLuma x q a T ad tk i=some y) (ha:Agree (m + y.objs.length) ad ad') (ht:Agree (i + 4) tk tk'):ctLuma x q a T ad' tk' i=some y:=by
 refine at1_cong hT e fun h1 o e=>?_
 cases e
 have ha:Agree (m + 0) ad ad':=ha
 rw [ha (x.L.jl q) (by exact om149 h1),ht i (by exact om20)]
theorem ctPlu_cong (hT:∀ j y,T.get j=some y->j<m) (e:ctPlu x q a T ad tk i=some y) (ha:Agree (m + y.objs.length) ad ad') (ht:Agree (i + 4) tk tk'):ctPlu x q a T ad' tk' i=some y:=by
 refine at1_cong hT e fun h1 o e=>?_
 cases e
 have ha:Agree (m + 0) ad ad':=ha
 rw [ha (x.L.jl q) (by exact om149 h1),ht i (by exact om20)]
theorem ctRun_cong (hT:∀ j y,T.get j=some y->j<m) (e:ctRun x q a b T ad m tk i=some y) (ha:Agree (m + y.objs.length) ad ad') (ht:Agree (i + 4) tk tk'):ctRun x q a b T ad' m tk' i=some y:=by
 refine at2_cong hT e fun h1 h2 o p e=>?_
 cases e
 have ha:Agree (m + 2) ad ad':=ha
 rw [ha (x.L.jl q) (by exact om150 h1),ha (x.L.kl q) (by exact om150 h2),ha m (by exact om151),ha (m + 1) (by exact om152),ht (i + 3) (by exact om145),ht (i + 2) (by exact om148),ht (i + 1) (by exact om147),ht i (by exact om20)]
theorem ctPage_cong {z:Str} (e:ctPage x q z ad m tk i=some y) (ha:Agree (m + y.objs.length) ad ad') (ht:Agree (i + 4) tk tk'):ctPage x q z ad' m tk' i=some y:=by
 unfold ctPage at e ⊢
 cases e
 have ha:Agree (m + 1) ad ad':=ha
 rw [ha m (by exact om144),ht (i + 2) (by exact om148),ht (i + 1) (by exact om147),ht i (by exact om20)]
theorem ctLenS_cong {z:Str} (e:ctLenS q z tk i=some y) (ht:Agree (i + 4) tk tk'):ctLenS q z tk' i=some y:=by
 unfold ctLenS at e ⊢
 cases e
 rw [ht i (by exact om20)]
theorem ctSort_cong (hT:∀ j y,T.get j=some y->j<m) (e:ctSort x q a T ad m tk i=some y) (ha:Agree (m + y.objs.length) ad ad') (ht:Agree (i + 4) tk tk'):ctSort x q a T ad' m tk' i=some y:=by
 refine at1_cong hT e fun h1 o e=>?_
 split at e
 · cases e
   have ha:Agree (m + 1) ad ad':=ha
   rw [ha (x.L.jl q) (by exact om36 h1),ha m (by exact om144),ht (i + 2) (by exact om148),ht (i + 1) (by exact om147),ht i (by exact om20)]
 · cases e
theorem ctWays_cong (hT:∀ j y,T.get j=some y->j<m) (e:ctWays x q a T ad m tk i=some y) (ha:Agree (m + y.objs.length) ad ad') (ht:Agree (i + 4) tk tk'):ctWays x q a T ad' m tk' i=some y:=by
 refine at1_cong hT e fun h1 o e=>?_
 split at e
 · cases e
   have ha:Agree (m + 1) ad ad':=ha
   rw [ha (x.L.jl q) (by exact om36 h1),ha m (by exact om144),ht (i + 2) (by exact om148),ht (i + 1) (by exact om147),ht i (by exact om20)]
 · cases e
theorem ctCut_cong (hT:∀ j y,T.get j=some y->j<m) (e:ctCut x q a b T ad m=some y) (ha:Agree (m + y.objs.length) ad ad'):ctCut x q a b T ad' m=some y:=by
 refine at2_cong hT e fun h1 h2 o p e=>?_
 split at e
 · cases e
   have ha:Agree (m + 1) ad ad':=ha
   rw [ha (x.L.jl q) (by exact om36 h1),ha (x.L.kl q) (by exact om36 h2),ha m (by exact om144)]
 · cases e
theorem ctS_cong {kt:KT} {m₀:Nat}:CtCong (mkS x kt w) m₀:=by
 intro q c T ad m tk i y hm hT e ad' tk' ha ht
 unfold mkS ctS at e ⊢
 dsimp only at e ⊢
 split at e
 · obtain rfl:=c1_some (by assumption)
   split at e
   · split at e
     · exact ctSort_cong hT e ha ht
     · cases e
   · cases e
 · cases e
theorem ctL_cong {kt:KT} {m₀:Nat}:CtCong (mkL x kt w) m₀:=by
 intro q c T ad m tk i y hm hT e ad' tk' ha ht
 unfold mkL ctL at e ⊢
 dsimp only at e ⊢
 split at e
 · obtain rfl:=c2_some (by assumption)
   show ctL2 x q _ _ _ T ad' m tk' i=some y
   unfold ctL2 at e ⊢
   split at e
   · split at e
     · exact ctTimes_cong hT e ha ht
     · rename_i h
       split at e
       · exact ctRun_cong hT e ha ht
       · cases e
   · split at e
     · exact ctCut_cong hT e ha
     · cases e
   · cases e
 · split at e
   · obtain rfl:=c1_some (by assumption)
     show ctL1 x q _ _ T ad' m tk' i=some y
     unfold ctL1 at e ⊢
     split at e
     · split at e
       · exact ctTurned_cong hT e ha ht
       · rename_i h
         split at e
         · exact ctLuma_cong hT e ha ht
         · rename_i h2
           split at e
           · exact ctPlu_cong hT e ha ht
           · rename_i h3
             split at e
             · exact ctWays_cong hT e ha ht
             · cases e
     · split at e
       · exact ctSort_cong hT e ha ht
       · cases e
     · cases e
   · split at e
     · obtain rfl:=cs_some (by assumption)
       show ctLs x q _ _ ad' m tk' i=some y
       unfold ctLs at e ⊢
       split at e
       · split at e
         · exact ctPage_cong e ha ht
         · cases e
       · split at e
         · exact ctLenS_cong e ht
         · cases e
       · cases e
     · cases e
end
section
variable {kt:Params->KT} {w:World} {x:LL} {N m₀ D U:Nat} {h₀:Heap}
theorem ctS_ok:CtOk thePw w (mkS x (kt w.params) w) D U N Cas h₀ m₀:=by
 intro q c T ad m tk i A R s hA hd hu Rp hct hR
 obtain ⟨y,ey,hφ⟩:=hct ad tk (Agree.refl _ _) (Agree.refl _ _)
 have hR':HR kt w R s N m i ad tk fun ad' tk'=>(mkS x (kt w.params) w).ct q c T ad' m tk' i:=hR
 have ey':ctS x q c T ad m tk i=some y:=ey
 have hR':HR kt w R s N m i ad tk fun ad' tk'=>ctS x q c T ad' m tk' i:=hR'
 clear hct hR ey
 unfold ctS at ey' hR'
 split at ey'
 · obtain rfl:=c1_some (by assumption)
   simp only [c1_eq] at hR'
   split at ey'
   · split at ey'
     · rename_i h
       simp only [h] at hR'
       obtain rfl:=isId_eq h
       exact sort_ct Rp ey' hφ hR'
     · cases ey'
   · cases ey'
 · cases ey'
end
end
section
variable [Bs]
noncomputable def LL.zero:LL:=⟨L2.zero,fun _ _=>0,fun _=>[],fun _=>[],[]⟩
noncomputable def LL.jkm (x:LL) (jl kl ml:Nat->Nat):LL:={ x with L:={ x.L with jl:=jl,kl:=kl,ml:=ml } }
noncomputable def six (s:Nat->Int):List Int:=[s 0,s 1,s 2,s 3,s 4,s 5]
noncomputable def waysL (x:LL):LL:=x.jkm (fun q=>match q with | 10=>2 | 11=>2 | 12=>2 | 13=>2 | 14=>2 | 15=>2 | 16=>2 | 17=>2 | 18=>2 | 19=>2 | 20=>2 | 21=>2 | 22=>2 | 23=>2 | 24=>2 | 25=>2 | 26=>2 | 27=>2 | 28=>2 | 29=>2 | 30=>2 | 31=>2 | 32=>2 | 33=>2 | 34=>2 | 35=>2 | 36=>2 | 37=>2 | 38=>2 | 39=>2 | 40=>2 | _=>999) (fun _=>999) (fun _=>999)
noncomputable def waysT (kt:KT) (w:World) (x:LL) (ad tk:Nat->Nat) (s:Nat->Int) (t:Nat->Nat) (n:Nat):Rs2 :=
 run2 (mkS (waysL x) kt w) ad tk 3730 true (.call (.ref 265) ⟨[.ref (ad 0)],[]⟩) (callF 265 ⟨[.ref (ad 0)],[]⟩ (defD kt 265)) .nil 0 (bt [oList (intsT (six s) t) n]) 1 0 zo54 [] [] []
noncomputable def waysF (r:Result) (T:BT) (_:Nat):Option Nat×Option Obj×Option Obj:=(refOf r,T.get 31,T.get 0)
noncomputable def waysX (x:LL) (ad tk:Nat->Nat) (s:Nat->Int) (t:Nat->Nat) (n:Nat):Option Nat×Option Obj×Option Obj:=(some (ad 31),some (oList (intsT (x.so 40) (dec (tk 306) (tk 307))) (tk 308)),some (oList (intsT (six s) t) n))
noncomputable def waysVs (s:Nat->Int) (tk:Nat->Nat):List Value:=intsT (waysOf (six s)) fun j=>tk (22 + 50 * (j / 5) + 8 * (j % 5))
noncomputable def opApp (ad:Nat->Nat) (j k:Nat):Prop:=@Eq Nat (ad j) (ad j)∧k + 1≤sizeLine
noncomputable def opSort (x:LL) (ad:Nat->Nat) (j q:Nat) (vs:List Value) (n:Nat):Prop:=@Eq Nat (ad j) (ad j)∧oList vs n=oList vs n∧∃ ns,IntsAre vs ns∧vs.length<64∧x.so q=sortI ns
noncomputable def waysO (x:LL) (ad tk:Nat->Nat) (s:Nat->Int):List Prop:=opSort x ad 2 40 (waysVs s tk) 30::((List.range 30).reverse.map fun k=>opApp ad 2 k)
structure WaysK (kt:Params->KT):Prop where
 def_:∀ P,(defAt (kt P) 265).isSome=true
 all:∀ (w:World) x ad tk s t n,(waysT (kt w.params) w x ad tk s t n).dn waysF=some (waysX x ad tk s t n,waysO x ad tk s,(waysT (kt w.params) w x ad tk s t n).l1,(waysT (kt w.params) w x ad tk s t n).l1,(waysT (kt w.params) w x ad tk s t n).s1,(waysT (kt w.params) w x ad tk s t n).s1)
section
variable {kt:Params->KT} {w:World} {A:Around} {R:Result->Shared->Prop} {N:Nat}
theorem len6 {l:List Int} (h:l.length=6):l=six fun i=>l.getD i 0:=by
 match l,h with
 | [_,_,_,_,_,_],_=>rfl
theorem ways_c (K:WaysK kt) (T0:TopOk (kt w.params) N) {s:Shared} {pa:Nat} {l:List Int} {t:Nat->Nat} {n:Nat} (hA:A.handled=none) (hd:A.depth + 335<recursionLimit) (hu:A.units + 330<cLine) (hb:(kt w.params).Holds s.heap 1 0) (hN:N≤s.heap.objs.size) (hI:Cas s.gens s.heap)
 (ha:s.heap.get? pa=some (oList (intsT l t) n)) (na:N≤pa) (h6:l.length=6)
 (hR:∀ h' G' t' p f n',h'.get? p=some (oList (intsT (sortI (waysOf l)) f) n')->s.heap.objs.size≤p->KeepsN N s.heap h'->(kt w.params).Holds h' 1 0->Cas G' h'->s.heap.objs.size≤h'.objs.size->R (.ok (.ret (.ref p))) ⟨h',G',s.drawn,t',s.os⟩) :
 codeAny (model thePw w) A (.call (.ref 265) ⟨[.ref pa],[]⟩) R s:=by
 refine call_means (N:=N) ⟨hA,by exact om235 hd,hb,T0.top,T0.lim⟩ (K.def_ _) ?_
 let x:LL:={ LL.zero with so:=fun _=>sortI (waysOf l) }
 have el:=len6 h6
 have e:=fun f tk'=>K.all w x (adJ [pa] f) tk' (fun i=>l.getD i 0) t n
 have C:Cx2 w (mkS (waysL x) (kt w.params) w) A N Cas 1 s:=⟨rfl,hA,by exact om278 hd,by exact om234 hu,spP_ok,ctS_ok,ctS_cong,T0.lim,hN,hb,T0.top,hI,Cas_stb T0⟩
 refine seg2_dn (E:=mkS (waysL x) (kt w.params) w) (I:=Cas) [pa] [oList (intsT (six fun i=>l.getD i 0) t) n] C (by simp) (by rw [← el]; simp [ha]) (by simpa using na) trivial rfl (Nat.le_refl _) (Nat.zero_le _) waysF (fun ad tk'=>waysX x ad tk' (fun i=>l.getD i 0) t n) (fun ad tk'=>waysO x ad tk' fun i=>l.getD i 0) e ?_ ?_
 · intro f tk' p hp
   unfold waysO at hp
   rcases List.mem_cons.mp hp with rfl | hp
   · refine ⟨rfl,rfl,waysOf (six fun i=>l.getD i 0),intsT_are _ _,?_,by rw [← el]⟩
     show 30<64
     decide
   · obtain ⟨k,hk,rfl⟩:=List.mem_map.mp hp
     rw [List.mem_reverse,List.mem_range] at hk
     exact ⟨rfl,by unfold sizeLine; exact om279 hk⟩
 · intro h' G' t' f tk' r T' m' eF D
   unfold waysF waysX at eF
   simp only [Prod.mk.injEq] at eF
   obtain ⟨er,e31,e0⟩:=eF
   rw [refOf_some er]
   obtain ⟨o1,o2⟩:=D.own _ _ e31
   exact hR h' G' t' _ _ _ o2 (D.new 31 (show 1≤31 by decide) o1) (fun b o hb e=>by
    by_cases q:@Eq Nat b pa
    · rw [show b=pa from q,ha] at e
      have o0:=(D.own _ _ e0).2
      rw [← el] at o0
      rw [show b=adJ [pa] f 0 from q,o0]
      exact e
    · exact keep_out D hb e (by simpa using q)) D.base D.inv D.size
end
end
section
variable [Bs]
structure LawKs (kt:Params->KT) (w:World):Prop where
 times:TimesK kt
 turned:∀ p∈turnedPs,TurnedEq kt p
 d225:∀ P,(defAt (kt P) 225).isSome=true
 luma:LumaK kt
 d239:∀ P,(defAt (kt P) 239).isSome=true
 plu:PlumaK kt
 run:RunK kt
 gen:GenK kt
 len:LenK kt
 page:PageK kt
 ways:WaysK kt
 tab:Tab (kt w.params) w
section
variable {kt:Params->KT} {w:World} {A:Around} {R:Result->Shared->Prop} {s:Shared} {x:LL} {N m₀ D U:Nat} {h₀:Heap}
theorem ways_ct {T:BT} {m i:Nat} {ad tk:Nat->Nat} {q a:Nat} {y:Ct} (K:WaysK kt) (T0:TopOk (kt w.params) N) (Rp:Rep2 (kt w.params) N (Cas s.gens) ad h₀ m₀ s.heap T m) (hA:A.handled=none) (hd:A.depth + 335<recursionLimit) (hu:A.units + 330<cLine) (hN:N≤s.heap.objs.size)
 (ey:ctWays x q a T ad m tk i=some y) (hφ:y.φ) (hR:HR kt w R s N m i ad tk fun ad' tk'=>ctWays x q a T ad' m tk' i) :
 codeAny (model thePw w) A (.call (.ref 265) ⟨[.ref a],[]⟩) R s:=by
 unfold ctWays at1 at ey
 split at ey
 · rename_i o ho
   dsimp only at ey
   split at ey
   · rename_i ys n hd'
     cases ey
     obtain ⟨rfl,hoo,ns,h1,h2,h3⟩:=hφ
     obtain ⟨b,c,hv⟩:=ints_dec h1
     rw [hv] at hoo
     refine ways_c K T0 hA hd hu Rp.base hN Rp.inv (by rw [(Rp.own _ _ ho).2,← hoo]) (Rp.off _ (Rp.own _ _ ho).1) h2 ?_
     intro h' G' t' p f n' e hp kp hb hc hs
     obtain ⟨b',c',hf⟩:=ints_dec (intsT_are (sortI (waysOf ns)) f)
     rw [hf,← h3] at e
     have z:=hR.oneN (p:=p) (G':=G') (t':=t') (fun j=>match j with | 0=>b' | 1=>c' | _=>n') _ (by unfold ctWays at1; simp only [ho,hd']; rfl) rfl (by
      rw [e,updK_0,updK_at 1,updK_at 2]; rfl) hp kp hb hc hs
     rw [upd_self] at z
     exact z
   · cases ey
 · cases ey
theorem ctL_ok (K:LawKs kt w) (T0:TopOk (kt w.params) N) (hD:D + 335<recursionLimit) (hU:U + 330<cLine) (hN0:N≤h₀.objs.size):CtOk thePw w (mkL x (kt w.params) w) D U N Cas h₀ m₀:=by
 intro q c T ad m tk i A R s hA hd hu Rp hct hR
 obtain ⟨y,ey,hφ⟩:=hct ad tk (Agree.refl _ _) (Agree.refl _ _)
 have hR':HR kt w R s N m i ad tk fun ad' tk'=>(mkL x (kt w.params) w).ct q c T ad' m tk' i:=hR
 have ey':ctL x q c T ad m tk i=some y:=ey
 have hR':HR kt w R s N m i ad tk fun ad' tk'=>ctL x q c T ad' m tk' i:=hR'
 have hN:N≤s.heap.objs.size:=Nat.le_trans hN0 Rp.size
 have C:Cx (kt w.params) N 215 A s.heap:=⟨hA,by exact om173 hD hd,Rp.base,T0.top,T0.lim⟩
 clear hct hR ey
 unfold ctL at ey'
 split at ey'
 · obtain rfl:=c2_some (by assumption)
   replace hR':HR kt w R s N m i ad tk fun ad' tk'=>ctL2 x q _ _ _ T ad' m tk' i:=hR'
   unfold ctL2 at ey' hR'
   split at ey'
   · split at ey'
     · rename_i h
       simp only [h] at hR'
       obtain rfl:=Nat.eq_of_beq_eq_true h
       exact times_ct K.times Rp (C.less (by decide)) ey' hφ hR'
     · rename_i h
       split at ey'
       · rename_i h2
         simp only [h,h2] at hR'
         obtain rfl:=Nat.eq_of_beq_eq_true h2
         exact run_ct K.run K.tab Rp C ey' hφ hR'
       · cases ey'
   · split at ey'
     · rename_i h
       simp only [h] at hR'
       obtain rfl:=isId_eq h
       exact cut_ct Rp ey' hφ hR'
     · cases ey'
   · cases ey'
 · split at ey'
   · obtain rfl:=c1_some (by assumption)
     replace hR':HR kt w R s N m i ad tk fun ad' tk'=>ctL1 x q _ _ T ad' m tk' i:=hR'
     unfold ctL1 at ey' hR'
     split at ey'
     · split at ey'
       · rename_i h
         simp only [h] at hR'
         obtain rfl:=Nat.eq_of_beq_eq_true h
         exact turned_ct K.turned K.d225 Rp (C.less (by decide)) ey' hφ hR'
       · rename_i h
         split at ey'
         · rename_i h2
           simp only [h,h2] at hR'
           obtain rfl:=Nat.eq_of_beq_eq_true h2
           exact luma_ct K.luma K.d239 Rp (C.less (by decide)) ey' hφ hR'
         · rename_i h2
           split at ey'
           · rename_i h3
             simp only [h,h2,h3] at hR'
             obtain rfl:=Nat.eq_of_beq_eq_true h3
             exact plu_ct K.plu Rp (C.less (by decide)) ey' hφ hR'
           · rename_i h3
             split at ey'
             · rename_i h4
               simp only [h,h2,h3,h4] at hR'
               obtain rfl:=Nat.eq_of_beq_eq_true h4
               exact ways_ct K.ways T0 Rp hA (by exact om174 hD hd) (by exact om175 hU hu) hN ey' hφ hR'
             · cases ey'
     · split at ey'
       · rename_i h
         simp only [h] at hR'
         obtain rfl:=isId_eq h
         exact sort_ct Rp ey' hφ hR'
       · cases ey'
     · cases ey'
   · split at ey'
     · obtain rfl:=cs_some (by assumption)
       replace hR':HR kt w R s N m i ad tk fun ad' tk'=>ctLs x q _ _ ad' m tk' i:=hR'
       unfold ctLs at ey' hR'
       split at ey'
       · split at ey'
         · rename_i h
           simp only [h] at hR'
           obtain rfl:=Nat.eq_of_beq_eq_true h
           exact page_ct K.gen K.len K.page K.tab T0 Rp hA (by exact om174 hD hd) (by exact om175 hU hu) hN ey' hφ hR'
         · cases ey'
       · split at ey'
         · rename_i h
           simp only [h] at hR'
           obtain rfl:=isId_eq h
           exact lenS_ct Rp ey' hφ hR'
         · cases ey'
       · cases ey'
     · cases ey'
structure CxL (kt:Params->KT) (w:World) (N:Nat) (A:Around) (s:Shared):Prop where
 ks:LawKs kt w
 top:TopOk (kt w.params) N
 hA:A.handled=none
 hd:A.depth + 410<recursionLimit
 hu:A.units + 560<cLine
 base:(kt w.params).Holds s.heap 1 0
 hN:N≤s.heap.objs.size
 inv:Cas s.gens s.heap
theorem CxL.cx2 (C:CxL kt w N A s):Cx2 w (mkL x (kt w.params) w) A N Cas m₀ s where
 hst:=rfl
 hA:=C.hA
 hd:=by have:=C.hd; exact om176 this
 hu:=by have:=C.hu; exact om177 this
 hsp:=spL_ok
 hct:=ctL_ok C.ks C.top (by have:=C.hd; exact om178 this) (by have:=C.hu; exact om179 this) C.hN
 hcg:=ctL_cong
 lim:=C.top.lim
 hN:=C.hN
 base:=C.base
 top:=C.top.top
 inv:=C.inv
 stb:=Cas_stb C.top
theorem CxL.to {s':Shared} (C:CxL kt w N A s) (b:(kt w.params).Holds s'.heap 1 0) (i:Cas s'.gens s'.heap) (hs:s.heap.objs.size≤s'.heap.objs.size):CxL kt w N A s' :=
 ⟨C.ks,C.top,C.hA,C.hd,C.hu,b,Nat.le_trans C.hN hs,i⟩
end
noncomputable def grpT (sts:List Stmt) (env:Env):Sem Fin:=PySem.W.R.bindR (bodyT sts env) fun f=>.pure (.done f)
section
variable {w:World} {A:Around} {R:Result->Shared->Prop} {s:Shared} {c:Code} {env:Env}
theorem bindR_bind {α β:Type} (m:Sem α) (f:α->Sem β):PySem.W.R.bindR m f=(m >>= f):=by
 rw [← PySem.W.R.bindR_eq]
 rfl
theorem grp_own {sts:List Stmt} (h:Means thePw w A R false c (grpT sts env) .nil s):wpOwn (model thePw w) A c (bodyT sts env) (fun f s'=>R (.ok f) s') (fun e s'=>R (.error e) s') s:=fun Γ p hc hΓ=>by
 have z:=h Γ p hc hΓ
 unfold grpT at z
 rw [bindR_bind,Sem.wp_bind'] at z
 exact z
theorem bodyT_append (a b:List Stmt) {Q:Flow->Shared->Prop} {E:Value->Shared->Prop}
 (h:wpOwn (model thePw w) A c (bodyT a env) (fun f s'=>match f with | .next=>wpOwn (model thePw w) A c (bodyT b env) Q E s' | f=>Q f s') E s):wpOwn (model thePw w) A c (bodyT (a++b) env) Q E s:=by
 intro Γ p hc hΓ
 have z:=h Γ p hc hΓ
 clear h
 induction a generalizing s p with
 | nil=>exact z Γ p hc hΓ
 | cons st r ih =>
  have e1:bodyT (st::r) env=PySem.W.R.bindR (stT st env) fun f=>match f with | .next=>bodyT r env | f=>.pure f:=rfl
  have e2:bodyT (st::r++b) env=PySem.W.R.bindR (stT st env) fun f=>match f with | .next=>bodyT (r++b) env | f=>.pure f:=rfl
  rw [e1,bindR_bind,Sem.wp_bind'] at z
  rw [e2,bindR_bind,Sem.wp_bind']
  refine Sem.wp_mono _ _ _ (fun f p' s' h'=>?_) (fun _ _ _ h'=>h') _ _ z
  cases f with
  | next=>exact ih p' h'
  | _=>exact h'
theorem func_of (hu:A.units + 20<cLine) {body:List Stmt} (h:wpOwn (model thePw w) A (.func body env) (bodyT body env) (fun f s'=>∃ v,f = .ret v∧R (.ok (.ret v)) s') (fun _ _=>False) s):codeAny (model thePw w) A (.func body env) R s:=by
 have hu2:A.units + (Code.func body env).cUnits<cLine:=by
  have:=cUnits_le (show (Code.func body env).isCaller=false from rfl)
  exact om180 hu this
 refine codeAny_of_own ?_
 show wpOwn _ _ _ (do point; match ← (execs body env).onRaise (leaving env) with | .ret v=>ret v | _=>ret .none) _ _ s
 refine wpOwn_bind (m:=point) (wpOwn_of_wpAny (wpAny_point (wpOwn_bind ?_)))
 intro Γ p hc hΓ
 rw [Sem.wp_onRaise]
 refine Sem.wp_mono _ _ _ (fun f p' s' h'=>?_) (fun e p' s' h'=>?_) _ _ (body_imp hu2 body env Γ _ _ p s hc hΓ (h Γ p hc hΓ))
 · obtain ⟨v,rfl,hv⟩:=h'
   exact fun Γ p hc hΓ=>hv
 · exact False.elim h'
end
end
noncomputable abbrev wScript:Str:=⟨⟨[115,99,114,105,112,116]⟩⟩
noncomputable abbrev wGiven:Str:=⟨⟨[103,105,118,101,110]⟩⟩
noncomputable abbrev wDrawn:Str:=⟨⟨[100,114,97,119,110]⟩⟩
noncomputable abbrev wNumber:Str:=⟨⟨[110,117,109,98,101,114]⟩⟩
noncomputable abbrev wFirst:Str:=⟨⟨[102,105,114,115,116]⟩⟩
noncomputable abbrev wAbove:Str:=⟨⟨[97,98,111,118,101]⟩⟩
noncomputable abbrev wLeast:Str:=⟨⟨[108,101,97,115,116]⟩⟩
noncomputable abbrev wStep:Str:=⟨⟨[115,116,101,112]⟩⟩
noncomputable abbrev wSquare:Str:=⟨⟨[115,113,117,97,114,101]⟩⟩
noncomputable abbrev wTurned:Str:=⟨⟨[116,117,114,110,101,100]⟩⟩
noncomputable abbrev wBoth:Str:=⟨⟨[98,111,116,104]⟩⟩
noncomputable abbrev wRule:Str:=⟨⟨[114,117,108,101]⟩⟩
noncomputable abbrev wBegin:Str:=⟨⟨[98,101,103,105,110]⟩⟩
noncomputable abbrev wEnd:Str:=⟨⟨[101,110,100]⟩⟩
noncomputable abbrev wRows:Str:=⟨⟨[114,111,119,115]⟩⟩
noncomputable abbrev wLengths:Str:=⟨⟨[108,101,110,103,116,104,115]⟩⟩
noncomputable abbrev wSizes:Str:=⟨⟨[115,105,122,101,115]⟩⟩
noncomputable abbrev wAlong:Str:=⟨⟨[97,108,111,110,103]⟩⟩
noncomputable abbrev wFivefold:Str:=⟨⟨[102,105,118,101,102,111,108,100]⟩⟩
noncomputable abbrev wK:Str:=⟨⟨[107]⟩⟩
noncomputable def fr1 (P:Params) (τ v:Nat->Nat) (d:Nat->Int):Obj:=oFrame [ky P wScript (τ 0) (.ref (v 0))] 1
noncomputable def fr8 (P:Params) (τ v:Nat->Nat) (d:Nat->Int):Obj:=oFrame [ky P wScript (τ 0) (.ref (v 0)),ky P wGiven (τ 1) (.ref (v 1)),ky P wDrawn (τ 2) (.ref (v 2)),ky P wNumber (τ 3) (.int (d 3) (v 3)),ky P wFirst (τ 4) (.ref (v 4)),ky P wAbove (τ 5) (.int (d 5) (v 5)),ky P wLeast (τ 6) (.int (d 6) (v 6)),ky P wStep (τ 7) (.ref (v 7))] 8
noncomputable def fr11 (P:Params) (τ v:Nat->Nat) (d:Nat->Int):Obj:=oFrame [ky P wScript (τ 0) (.ref (v 0)),ky P wGiven (τ 1) (.ref (v 1)),ky P wDrawn (τ 2) (.ref (v 2)),ky P wNumber (τ 3) (.int (d 3) (v 3)),ky P wFirst (τ 4) (.ref (v 4)),ky P wAbove (τ 5) (.int (d 5) (v 5)),ky P wLeast (τ 6) (.int (d 6) (v 6)),ky P wStep (τ 7) (.ref (v 7)),ky P wSquare (τ 8) (.ref (v 8)),ky P wTurned (τ 9) (.ref (v 9)),ky P wBoth (τ 10) (.ref (v 10))] 11
noncomputable def fr12 (P:Params) (τ v:Nat->Nat) (d:Nat->Int):Obj:=oFrame [ky P wScript (τ 0) (.ref (v 0)),ky P wGiven (τ 1) (.ref (v 1)),ky P wDrawn (τ 2) (.ref (v 2)),ky P wNumber (τ 3) (.int (d 3) (v 3)),ky P wFirst (τ 4) (.ref (v 4)),ky P wAbove (τ 5) (.int (d 5) (v 5)),ky P wLeast (τ 6) (.int (d 6) (v 6)),ky P wStep (τ 7) (.ref (v 7)),ky P wSquare (τ 8) (.ref (v 8)),ky P wTurned (τ 9) (.ref (v 9)),ky P wBoth (τ 10) (.ref (v 10)),ky P wRule (τ 11) (.ref (v 11))] 12
noncomputable def fr14 (P:Params) (τ v:Nat->Nat) (d:Nat->Int):Obj:=oFrame [ky P wScript (τ 0) (.ref (v 0)),ky P wGiven (τ 1) (.ref (v 1)),ky P wDrawn (τ 2) (.ref (v 2)),ky P wNumber (τ 3) (.int (d 3) (v 3)),ky P wFirst (τ 4) (.ref (v 4)),ky P wAbove (τ 5) (.int (d 5) (v 5)),ky P wLeast (τ 6) (.int (d 6) (v 6)),ky P wStep (τ 7) (.ref (v 7)),ky P wSquare (τ 8) (.ref (v 8)),ky P wTurned (τ 9) (.ref (v 9)),ky P wBoth (τ 10) (.ref (v 10)),ky P wRule (τ 11) (.ref (v 11)),ky P wBegin (τ 12) (.ref (v 12)),ky P wEnd (τ 13) (.ref (v 13))] 14
noncomputable def fr17 (P:Params) (τ v:Nat->Nat) (d:Nat->Int):Obj:=oFrame [ky P wScript (τ 0) (.ref (v 0)),ky P wGiven (τ 1) (.ref (v 1)),ky P wDrawn (τ 2) (.ref (v 2)),ky P wNumber (τ 3) (.int (d 3) (v 3)),ky P wFirst (τ 4) (.ref (v 4)),ky P wAbove (τ 5) (.int (d 5) (v 5)),ky P wLeast (τ 6) (.int (d 6) (v 6)),ky P wStep (τ 7) (.ref (v 7)),ky P wSquare (τ 8) (.ref (v 8)),ky P wTurned (τ 9) (.ref (v 9)),ky P wBoth (τ 10) (.ref (v 10)),ky P wRule (τ 11) (.ref (v 11)),ky P wBegin (τ 12) (.ref (v 12)),ky P wEnd (τ 13) (.ref (v 13)),ky P wRows (τ 14) (.ref (v 14)),ky P wLengths (τ 15) (.ref (v 15)),ky P wSizes (τ 16) (.ref (v 16))] 17
noncomputable def fr18 (P:Params) (τ v:Nat->Nat) (d:Nat->Int):Obj:=oFrame [ky P wScript (τ 0) (.ref (v 0)),ky P wGiven (τ 1) (.ref (v 1)),ky P wDrawn (τ 2) (.ref (v 2)),ky P wNumber (τ 3) (.int (d 3) (v 3)),ky P wFirst (τ 4) (.ref (v 4)),ky P wAbove (τ 5) (.int (d 5) (v 5)),ky P wLeast (τ 6) (.int (d 6) (v 6)),ky P wStep (τ 7) (.ref (v 7)),ky P wSquare (τ 8) (.ref (v 8)),ky P wTurned (τ 9) (.ref (v 9)),ky P wBoth (τ 10) (.ref (v 10)),ky P wRule (τ 11) (.ref (v 11)),ky P wBegin (τ 12) (.ref (v 12)),ky P wEnd (τ 13) (.ref (v 13)),ky P wRows (τ 14) (.ref (v 14)),ky P wLengths (τ 15) (.ref (v 15)),ky P wSizes (τ 16) (.ref (v 16)),ky P wAlong (τ 17) (.ref (v 17))] 18
noncomputable def fr19 (P:Params) (τ v:Nat->Nat) (d:Nat->Int):Obj:=oFrame [ky P wScript (τ 0) (.ref (v 0)),ky P wGiven (τ 1) (.ref (v 1)),ky P wDrawn (τ 2) (.ref (v 2)),ky P wNumber (τ 3) (.int (d 3) (v 3)),ky P wFirst (τ 4) (.ref (v 4)),ky P wAbove (τ 5) (.int (d 5) (v 5)),ky P wLeast (τ 6) (.int (d 6) (v 6)),ky P wStep (τ 7) (.ref (v 7)),ky P wSquare (τ 8) (.ref (v 8)),ky P wTurned (τ 9) (.ref (v 9)),ky P wBoth (τ 10) (.ref (v 10)),ky P wRule (τ 11) (.ref (v 11)),ky P wBegin (τ 12) (.ref (v 12)),ky P wEnd (τ 13) (.ref (v 13)),ky P wRows (τ 14) (.ref (v 14)),ky P wLengths (τ 15) (.ref (v 15)),ky P wSizes (τ 16) (.ref (v 16)),ky P wAlong (τ 17) (.ref (v 17)),ky P wFivefold (τ 18) (.ref (v 18))] 19
noncomputable abbrev oCell (v:Option Value):Obj:=⟨.type "cell",none,.cell v,#[]⟩
noncomputable def Rs2.scode:Rs2->Code
 | .stop c' _ _ _ _ _ _ _ _ _ _=>c'
 | _=>default
noncomputable def Rs2.acode:Rs2->Code
 | .again c' _ _ _ _ _ _ _ _=>c'
 | _=>default
noncomputable def envOf:Code->Env
 | .func _ e=>e
 | _=>default
noncomputable def okNext (r:Result):Option Unit:=match r with
 | .ok .next=>some ()
 | _=>none
noncomputable def e4 (a b c d:Nat) (j:Nat):Nat:=match j with | 1=>a | 2=>b | 3=>c | 4=>d | _=>0
noncomputable def lawA (kt:KT) (w:World) (ad tk:Nat->Nat) (vs:List Value) (n:Nat):Rs2:=run2 (mkL LL.zero kt w) ad tk 20 true (.call (.ref 270) ⟨[.ref (ad 0)],[]⟩) (callF 270 ⟨[.ref (ad 0)],[]⟩ (defD kt 270)) .nil 0 (bt [oList vs n]) 1 0 0x10202 [] [] []
noncomputable def lawBody (kt:KT):List Stmt:=(defD kt 270).2
noncomputable def lawEnv (kt:KT) (w:World) (e:Nat->Nat):Env:=envOf (lawA kt w e (fun _=>0) [] 0).acode
noncomputable def lawC (kt:KT) (w:World) (e:Nat->Nat):Code:=.func (lawBody kt) (lawEnv kt w e)
noncomputable def lawAF (c:Code) (T:BT) (_:Nat):Code×Option Obj×Option Obj×Option Obj×Option Obj×Option Obj:=(c,T.get 0,T.get 1,T.get 2,T.get 3,T.get 4)
noncomputable def lawAX (kt:KT) (w:World) (ad tk:Nat->Nat) (vs:List Value) (n:Nat):Code×Option Obj×Option Obj×Option Obj×Option Obj×Option Obj:=(lawC kt w (e4 (ad 1) (ad 2) (ad 3) (ad 4)),some (oList vs n),some (fr1 w.params (fun _=>tk 0) (fun _=>ad 0) (fun _=>0)),some (oCell none),some (oCell none),some (oCell none))
noncomputable def lawG (kt:KT) (w:World) (x:LL) (ad tk e:Nat->Nat) (i n fuel:Nat) (L:List Obj) (m o o2:Nat):Rs2:=match rowC w with
 | true=>run2 (mkL x kt w) ad tk fuel false (lawC kt w e) (grpT (((lawBody kt).drop i).take n) (lawEnv kt w e)) .nil 0 (bt L) m 0 o [] [] []
 | false=>run2 (mkL x kt w) ad tk fuel false (lawC kt w e) (grpT (((lawBody kt).drop i).take n) (lawEnv kt w e)) .nil 0 (bt L) m 0 o2 [] [] []
theorem lawG_eq {kt:KT} {w:World} {x:LL} {ad tk e:Nat->Nat} {i n fuel:Nat} {L:List Obj} {m o o2:Nat}:lawG kt w x ad tk e i n fuel L m o o2=run2 (mkL x kt w) ad tk fuel false (lawC kt w e) (grpT (((lawBody kt).drop i).take n) (lawEnv kt w e)) .nil 0 (bt L) m 0 (cond (rowC w) o o2) [] [] []:=by
 unfold lawG
 cases rowC w <;> rfl
noncomputable def g0F (r:Result) (T:BT) (_:Nat):Option Unit×Option Obj×Option Obj×Option Obj×Option Obj×Option Obj×Option Obj×Option Obj:=(okNext r,T.get 0,T.get 1,T.get 2,T.get 3,T.get 4,T.get 16,T.get 17)
noncomputable def numO (d0:Int):Int:=1 + d0.fmod 124
noncomputable def aboO (d1:Int):Int:=1 + d1.fmod 24
noncomputable def leaO (d1:Int):Int:=(d1.fdiv 24).fmod 5
noncomputable def fstO (d0:Int):Nat->Int:=v3 ((numO d0).fdiv 25) (((numO d0).fdiv 5).fmod 5) ((numO d0).fmod 5)
noncomputable def stpO (d1:Int):Nat->Int:=v3 (leaO d1) ((leaO d1 + (aboO d1).fdiv 5).fmod 5) ((leaO d1 + (aboO d1).fmod 5).fmod 5)
noncomputable def at3 (a b c:Nat) (j:Nat):Nat:=match j with | 0=>a | 1=>b | _=>c
noncomputable def g0X (P:Params) (ad tk τ v:Nat->Nat) (b:Nat) (d0 d1:Int) (vs:List Value) (n:Nat):Option Unit×Option Obj×Option Obj×Option Obj×Option Obj×Option Obj×Option Obj×Option Obj:=(some (),some (oList vs n),
 some (fr8 P (fun i=>match i with | 0=>τ 0 | 1=>tk (b + 5) | 2=>tk (b + 10) | 3=>tk (b + 16) | 4=>tk (b + 25) | 5=>tk (b + 31) | 6=>tk (b + 37) | _=>tk (b + 48)) (fun i=>match i with | 0=>ad 0 | 1=>ad 8 | 2=>ad 15 | 3=>tk (b + 15) | 4=>ad 16 | 5=>tk (b + 30) | 6=>tk (b + 36) | _=>ad 17) (fun i=>match i with | 3=>numO d0 | 5=>aboO d1 | _=>leaO d1)),
 some (oCell none),some (oCell none),some (oCell none),some (oThree (fstO d0) (at3 (tk (b + 18)) (tk (b + 22)) (tk (b + 24))) 0),some (oThree (stpO d1) (at3 (tk (b + 36)) (tk (b + 42)) (tk (b + 47))) 0))
noncomputable def opCut (ad:Nat->Nat) (vs:List Value) (n t:Nat) (cut:List Value):Prop:=@Eq Nat (ad 0) (ad 0)∧@Eq Nat (ad 5) (ad 5)∧oList vs n=oList vs n∧vs.length≤sizeLine∧(∃ t',(⟨.type "slice",none,.fields #[.none,.int 2 t,.none],#[]⟩:Obj)=⟨.type "slice",none,.fields #[.none,.int 2 t',.none],#[]⟩)∧cut=vs.take 2
noncomputable def g0L2 (x:LL) (cut:List Value):LL:={ (x.jkm (fun q=>match q with | 10=>0 | 11=>8 | 12=>8 | _=>999) (fun q=>match q with | 10=>5 | _=>999) (fun q=>match q with | 10=>999 | _=>999)) with cut:=cut }
noncomputable def g0R2 (kt:KT) (w:World) (x:LL) (ad tk τ v:Nat->Nat) (n:Nat) (a b:Int) (ta tb:Nat) (rest:List Value):Rs2:=lawG kt w (g0L2 x [.int a ta,.int b tb]) ad tk (e4 (ad 1) (ad 2) (ad 3) (ad 4)) 0 7 410 [oList (.int a ta::.int b tb::rest) n,fr1 w.params τ (fun _=>ad 0) (fun _=>0),oCell none,oCell none,oCell none] 5 zo55 zo56
noncomputable def g0L1 (x:LL) (cut:List Value):LL:={ (x.jkm (fun q=>match q with | 10=>0 | 11=>8 | _=>999) (fun q=>match q with | 10=>5 | _=>999) (fun q=>match q with | 10=>999 | _=>999)) with cut:=cut }
noncomputable def g0R1 (kt:KT) (w:World) (x:LL) (ad tk τ v:Nat->Nat) (n:Nat) (a:Int) (ta:Nat):Rs2:=lawG kt w (g0L1 x [.int a ta]) ad tk (e4 (ad 1) (ad 2) (ad 3) (ad 4)) 0 7 370 [oList [.int a ta] n,fr1 w.params τ (fun _=>ad 0) (fun _=>0),oCell none,oCell none,oCell none] 5 zo57 zo58
noncomputable def g0L0 (x:LL) (cut:List Value):LL:={ (x.jkm (fun q=>match q with | 10=>0 | _=>999) (fun q=>match q with | 10=>5 | _=>999) (fun q=>match q with | 10=>999 | _=>999)) with cut:=cut }
noncomputable def g0R0 (kt:KT) (w:World) (x:LL) (ad tk τ v:Nat->Nat) (n:Nat) :Rs2:=lawG kt w (g0L0 x []) ad tk (e4 (ad 1) (ad 2) (ad 3) (ad 4)) 0 7 330 [oList [] n,fr1 w.params τ (fun _=>ad 0) (fun _=>0),oCell none,oCell none,oCell none] 5 zo59 zo60
noncomputable def o3 (x:LL) (q:Nat) (tk:Nat->Nat) (i:Nat):Obj:=oThree (x.V q) (fun j=>tk (i + j)) (tk (i + 3))
noncomputable def opT (x:LL) (ad:Nat->Nat) (q j k:Nat) (oa ob:Obj):Prop:=@Eq Nat (ad j) (ad j)∧@Eq Nat (ad k) (ad k)∧∃ α β,Is3 oa α∧Is3 ob β∧Sm α∧∀ j,j<3->x.V q j=times α β j
noncomputable def opTu (x:LL) (ad:Nat->Nat) (q j:Nat) (oa:Obj):Prop:=@Eq Nat (ad j) (ad j)∧∃ α,Is3 oa α∧turnedIs α (x.V q 0) (x.V q 1) (x.V q 2)=true
noncomputable def opLu (x:LL) (ad:Nat->Nat) (q j:Nat) (oa:Obj):Prop:=@Eq Nat (ad j) (ad j)∧∃ α,Is3 oa α∧lumaIs α (x.V q 0)=true
noncomputable def opPl (x:LL) (ad:Nat->Nat) (q j:Nat) (oa:Obj):Prop:=@Eq Nat (ad j) (ad j)∧∃ α,Is3 oa α∧x.V q 0=plumaV α
noncomputable def opRun (x:LL) (ad:Nat->Nat) (q j k:Nat) (oa ob:Obj):Prop:=@Eq Nat (ad j) (ad j)∧@Eq Nat (ad k) (ad k)∧j ≠ k∧∃ β r,Is3 oa β∧Is3 ob r∧Sm β∧(∀ j,-100000<r j∧r j<100000)∧x.so q=(tell r 31 [] β).1∧∀ j,j<3->x.V q j=(tell r 31 [] β).2 j
noncomputable def opSeq (ad:Nat->Nat) (a b k:Nat) (xs ys:List Value) (r:Bool):Prop:=@Eq Nat (ad a) (ad a)∧@Eq Nat (ad b) (ad b)∧(Value.type sList:Value) = .type (seqTy k)∧(Value.type sList:Value) = .type (seqTy k)∧xs.length=ys.length∧(∀ j,j<xs.length->(vEq (xs.getD j .none) (ys.getD j .none)).isSome=true)∧seqRes k xs ys=r
noncomputable def xs3 (V:Nat->Int) (f:Nat->Nat):List Value:=[.int (V 0) (f 0),.int (V 1) (f 1),.int (V 2) (f 2)]
noncomputable def g1L (x:LL):LL:=x.jkm (fun q=>match q with | 10=>5 | 11=>5 | 12=>6 | 13=>5 | 14=>7 | 15=>5 | 16=>7 | 17=>10 | _=>999) (fun q=>match q with | 10=>5 | 11=>999 | 12=>6 | 13=>8 | 14=>9 | 15=>7 | 16=>999 | 17=>11 | _=>999) (fun q=>match q with | 10=>999 | 11=>999 | 12=>999 | 13=>999 | 14=>0 | 15=>999 | 16=>999 | 17=>999 | _=>999)
noncomputable def v8 (ad v:Nat->Nat) (i:Nat):Nat:=match i with | 4=>ad 4 | 7=>ad 5 | i=>v i
noncomputable def g1R (kt:KT) (w:World) (x:LL) (ad tk τ v:Nat->Nat) (d:Nat->Int) (f s:Nat->Int) (tf ts:Nat->Nat) (nf ns:Nat):Rs2:=lawG kt w (g1L x) ad tk (e4 (ad 0) (ad 1) (ad 2) (ad 3)) 7 6 500 [fr8 w.params τ (v8 ad v) d,oCell none,oCell none,oCell none,oThree f tf nf,oThree s ts ns] 6 zo61 zo61
noncomputable abbrev O10:=Option Unit×Option Obj×Option Obj×Option Obj×Option Obj×Option Obj×Option Obj×Option Obj×Option Obj×Option Obj×Option Obj
noncomputable def g1F (r:Result) (T:BT) (_:Nat):O10:=(okNext r,T.get 0,T.get 1,T.get 2,T.get 3,T.get 4,T.get 5,T.get 6,T.get 7,T.get 10,T.get 12)
noncomputable def g1X (P:Params) (x:LL) (ad tk τ v:Nat->Nat) (d:Nat->Int) (f s:Nat->Int) (tf ts:Nat->Nat) (nf ns:Nat):O10:=(some (),
 some (fr11 P (fun i=>match i with | 8=>tk 4 | 9=>tk 9 | 10=>tk 22 | i=>τ i) (fun i=>match i with | 8=>ad 6 | 9=>ad 7 | 10=>ad 10 | i=>v8 ad v i) d),
 some (oCell (some (.ref (ad 12)))),some (oCell none),some (oCell none),some (oThree f tf nf),some (oThree s ts ns),some (o3 x 10 tk 0),some (o3 x 11 tk 5),some (o3 x 15 tk 18),some (o3 x 17 tk 27))
noncomputable def g1O (x:LL) (ad tk:Nat->Nat) (s:Nat->Int) (ts:Nat->Nat) (ns:Nat):List Prop:=[
 cOk 3 (x.L.l.fl 18) (x.L.l.fl 18) true,fOk 3 (x.L.l.fl 21) 4611686018427387904 (x.L.l.fl 23)=true,fOk 1 (x.L.l.fl 18) (x.L.l.fl 18) (x.L.l.fl 22)=true,fOk 0 (x.L.l.fl 18) (x.L.l.fl 18) (x.L.l.fl 21)=true,cOk 0 (x.L.l.fl 20) (x.L.l.fl 18) false,cOk 0 (x.L.l.fl 19) (x.L.l.fl 18) false,cOk 2 (x.L.l.fl 20) (x.L.l.fl 18) false,cOk 2 (x.L.l.fl 19) (x.L.l.fl 18) false,
 dOk (x.V 17 2) 4 (x.L.l.fl 20)=true,dOk (x.V 17 1) 4 (x.L.l.fl 19)=true,dOk (x.V 17 0) 4 (x.L.l.fl 18)=true,
 opT x ad 17 10 11 (o3 x 15 tk 18) (o3 x 16 tk 23),opTu x ad 16 7 (o3 x 11 tk 5),opT x ad 15 5 7 (oThree s ts ns) (o3 x 11 tk 5),
 opSeq ad 7 9 1 (xs3 (x.V 11) fun j=>tk (5 + j)) (xs3 (x.V 13) fun j=>tk (14 + j)) false,
 opT x ad 13 5 8 (oThree s ts ns) (o3 x 12 tk 10),opT x ad 12 6 6 (o3 x 10 tk 0) (o3 x 10 tk 0),opTu x ad 11 5 (oThree s ts ns),opT x ad 10 5 5 (oThree s ts ns) (oThree s ts ns)]
noncomputable def vR (ad v:Nat->Nat) (i:Nat):Nat:=match i with | 10=>ad 5 | 7=>ad 6 | i=>v i
noncomputable def ruL (P:Params) (ad τ v:Nat->Nat) (d:Nat->Int) (n b s:Nat->Int) (tn tb ts:Nat->Nat) (nn nb ns:Nat):List Obj:=[fr11 P τ (vR ad v) d,oCell (some (.ref (ad 4))),oCell none,oCell none,oThree n tn nn,oThree b tb nb,oThree s ts ns]
noncomputable def gaR (kt:KT) (w:World) (ad tk τ v:Nat->Nat) (d:Nat->Int) (n b s:Nat->Int) (tn tb ts:Nat->Nat) (nn nb ns:Nat):Rs2:=lawG kt w LL.zero ad tk (e4 (ad 0) (ad 1) (ad 2) (ad 3)) 13 1 35 (ruL w.params ad τ v d n b s tn tb ts nn nb ns) 7 0x10100000500050005050502 0x10100000500050005050502
noncomputable abbrev O7:=Option Obj×Option Obj×Option Obj×Option Obj×Option Obj×Option Obj×Option Obj
noncomputable def gaS (c:Code) (d:Nat) (T:BT) (_:Nat):Nat×Option (String×Nat)×O7:=(d,smOf c,T.get 0,T.get 1,T.get 2,T.get 3,T.get 4,T.get 5,T.get 6)
noncomputable def lt7 (l:List Obj):O7:=(l[0]?,l[1]?,l[2]?,l[3]?,l[4]?,l[5]?,l[6]?)
noncomputable def tvR (kt:KT) (w:World) (ad tk:Nat->Nat) (rs:Rs2) (σ:Int) (tσ:Nat) (L:List Obj) (m n o:Nat):Rs2:=run2 (mkL LL.zero kt w) ad tk n false rs.sc (rs.sk (.ok (.ret (.int σ tσ)))) rs.sκ rs.sd (bt L) m 0 o [] [] []
structure RuS where
 tk:Nat->Nat
 τ:Nat->Nat
 v:Nat->Nat
 d:Nat->Int
 n:Nat->Int
 b:Nat->Int
 s:Nat->Int
 tn:Nat->Nat
 tb:Nat->Nat
 ts:Nat->Nat
 nn:Nat
 nb:Nat
 ns:Nat
noncomputable def gaY (kt:KT) (w:World) (ad:Nat->Nat) (y:RuS):Rs2:=gaR kt w ad y.tk y.τ y.v y.d y.n y.b y.s y.tn y.tb y.ts y.nn y.nb y.ns
noncomputable def oF0:Nat:=0x1
noncomputable def oF0b:Nat:=0x1050005000505
noncomputable def oH0:Nat:=0x1
noncomputable def oH0b:Nat:=0x1050005000505
noncomputable def oGb:Nat:=0x10100000000
noncomputable def oGc:Nat:=0x101
noncomputable def oG4b:Nat:=0x606060101
noncomputable def oG5b:Nat:=0xd0600060506070707
noncomputable def oFe:Nat:=0x905050500050005
noncomputable def oHe:Nat:=0x905050500050005
noncomputable def oFn:Nat:=zo62
noncomputable def oFz:Nat:=zo63
noncomputable def oHn:Nat:=0x105000d00070307070505050505050500050005
noncomputable def oHz:Nat:=0x1060e06000704000d00070307070505050505050500050005
noncomputable def k7 (ad g:Nat->Nat) (j:Nat):Nat:=match j with | 0=>ad 0 | 1=>ad 1 | 2=>ad 2 | 3=>ad 3 | 4=>ad 4 | 5=>ad 5 | 6=>ad 6 | j=>g j
noncomputable def gbY (kt:KT) (w:World) (ad tk g:Nat->Nat) (y:RuS) (σ:Int) (tσ:Nat):Rs2:=tvR kt w ad tk (gaY kt w (k7 ad g) y) σ tσ (ruL w.params ad y.τ y.v y.d y.n y.b y.s y.tn y.tb y.ts y.nn y.nb y.ns) 7 25 oGb
noncomputable def gcY (kt:KT) (w:World) (ad tk adb tkb g:Nat->Nat) (y:RuS) (σ:Int) (tσ:Nat) (ρ:Int) (tρ:Nat):Rs2:=tvR kt w ad tk (gbY kt w (k7 ad adb) tkb g y σ tσ) ρ tρ (ruL w.params ad y.τ y.v y.d y.n y.b y.s y.tn y.tb y.ts y.nn y.nb y.ns) 7 25 oGc
noncomputable def gcF (r:Result) (T:BT) (_:Nat):Option Unit×Option Obj×O7:=(okNext r,T.get 7,T.get 0,T.get 1,T.get 2,T.get 3,T.get 4,T.get 5,T.get 6)
noncomputable def gcZ (P:Params) (ad tk tkb:Nat->Nat) (y:RuS) (σ:Int) (ρ:Int) (tρ:Nat):Option Unit×Option Obj×O7:=(some (),some (oThree (v3 (y.n 0) (-σ) ρ) (at3 (y.tn 0) (tkb 0) tρ) 0),some (fr12 P (fun i=>match i with | 11=>tk 0 | i=>y.τ i) (fun i=>match i with | 11=>ad 7 | i=>vR ad y.v i) y.d),some (oCell (some (.ref (ad 4)))),some (oCell none),some (oCell none),some (oThree y.n y.tn y.nn),some (oThree y.b y.tb y.nb),some (oThree y.s y.ts y.ns))
noncomputable def gdL (x:LL):LL:=x.jkm (fun q=>match q with | 10=>5 | 11=>5 | 12=>9 | 13=>5 | 14=>10 | 15=>11 | 16=>18 | 17=>18 | 18=>18 | 19=>13 | _=>999) (fun q=>match q with | 10=>999 | 11=>6 | 12=>999 | 13=>7 | 14=>999 | 15=>8 | 19=>18 | _=>999) (fun q=>match q with | 10=>999 | 11=>999 | 12=>999 | 13=>999 | 14=>999 | 15=>999 | 19=>0 | _=>999)
noncomputable def vD (ad v:Nat->Nat) (i:Nat):Nat:=match i with | 4=>ad 5 | 7=>ad 6 | 8=>ad 7 | 11=>ad 8 | i=>v i
noncomputable def gdR (kt:KT) (w:World) (x:LL) (ad tk τ v:Nat->Nat) (d:Nat->Int) (n f s q r:Nat->Int) (tn tf ts tq tr:Nat->Nat) (nn nf ns nq nr:Nat):Rs2:=lawG kt w (gdL x) ad tk (e4 (ad 0) (ad 1) (ad 2) (ad 3)) 14 3 345 [fr12 w.params τ (vD ad v) d,oCell (some (.ref (ad 4))),oCell none,oCell none,oThree n tn nn,oThree f tf nf,oThree s ts ns,oThree q tq nq,oThree r tr nr] 9 zo64 zo65
noncomputable def gdF (r:Result) (T:BT) (_:Nat):Option Unit×O7:=(okNext r,T.get 0,T.get 1,T.get 2,T.get 3,T.get 4,T.get 5,T.get 8)
noncomputable def gdX (P:Params) (x:LL) (ad tk τ v:Nat->Nat) (d:Nat->Int) (n f r:Nat->Int) (tn tf tr:Nat->Nat) (nn nf nr:Nat):Option Unit×O7:=(some (),
 some (fr14 P (fun i=>match i with | 12=>tk 20 | 13=>tk 25 | i=>τ i) (fun i=>match i with | 12=>ad 11 | 13=>ad 13 | i=>vD ad v i) d),some (oCell (some (.ref (ad 4)))),some (oCell (some (.str (tx (x.so 15)) (tk 21)))),some (oCell none),some (oThree n tn nn),some (oThree f tf nf),some (oThree r tr nr))
noncomputable def gdO (x:LL) (ad tk:Nat->Nat) (n f s q r:Nat->Int) (tf ts tq tr:Nat->Nat) (nf ns nq nr:Nat):List Prop:=[
 opSeq ad 13 18 1 (xs3 (x.V 15) (dec (tk 22) (tk 23))) (xs3 (v3 ((n 0 * x.V 10 0).fmod 5) ((n 0 * x.V 12 0).fmod 5) ((n 0 * x.V 14 0).fmod 5)) (at3 (tk 30) (tk 35) (tk 40))) false,
 opApp ad 18 2,IntMulOk (n 0) (x.V 14 0),opApp ad 18 1,IntMulOk (n 0) (x.V 12 0),opApp ad 18 0,IntMulOk (n 0) (x.V 10 0),
 opRun x ad 15 11 8 (oThree (v3 (x.V 10 0) (x.V 12 0) (x.V 14 0)) (at3 (tk 0) (tk 8) (tk 16)) 0) (oThree r tr nr),
 opLu x ad 14 10 (o3 x 13 tk 12),opT x ad 13 5 7 (oThree f tf nf) (oThree q tq nq),opLu x ad 12 9 (o3 x 11 tk 4),opT x ad 11 5 6 (oThree f tf nf) (oThree s ts ns),opLu x ad 10 5 (oThree f tf nf)]
noncomputable def opPg (x:LL) (q:Nat) (z:Str):Prop:=∃ told:List Int,z=tx told∧told.length=31∧(∀ d∈told,0≤d∧d<5)∧x.S q=(rowsOf told).map tx
noncomputable def opWays (x:LL) (ad:Nat->Nat) (j q:Nat) (vs:List Value) (n:Nat):Prop:=@Eq Nat (ad j) (ad j)∧oList vs n=oList vs n∧∃ ns,IntsAre vs ns∧ns.length=6∧x.so q=sortI (waysOf ns)
noncomputable def opInit (ad:Nat->Nat) (a b:Nat):Prop:=@Eq Nat (ad a) (ad a)∧@Eq Nat (ad b) (ad b)∧¬ a=b
noncomputable def upto30 (tk:Nat->Nat) (b:Nat):List Value:=intsT ((List.range 30).map fun k=>Int.ofNat (k + 1)) fun j=>tk (b + j)
noncomputable abbrev O4:=Option Unit×Option Obj×Option Obj×Option Obj×Option Obj
noncomputable def g4F (r:Result) (T:BT) (_:Nat):O4:=(okNext r,T.get 0,T.get 1,T.get 2,T.get 3)
noncomputable def g2L7 (x:LL) (r:Nat->Str):LL:={ (x.jkm (fun q=>match q with | 10=>999 | 11=>999 | 12=>6 | 13=>999 | 14=>6 | 15=>999 | 16=>6 | 17=>999 | 18=>6 | 19=>999 | 20=>6 | 21=>999 | 22=>6 | 23=>999 | 24=>6 | 26=>13 | 27=>16 | 28=>14 | _=>999) (fun q=>match q with | 10=>999 | 11=>999 | 13=>999 | 15=>999 | 17=>999 | 19=>999 | 21=>999 | 23=>999 | 26=>999 | 27=>15 | 28=>16 | _=>999) (fun q=>match q with | 10=>999 | 11=>999 | 13=>999 | 15=>999 | 17=>999 | 19=>999 | 21=>999 | 23=>999 | 26=>999 | 28=>0 | _=>999)) with S:=fun _=>[r 0,r 1,r 2,r 3,r 4,r 5,r 6] }
noncomputable def g2R7 (kt:KT) (w:World) (x:LL) (r:Nat->Str) (ad tk τ v:Nat->Nat) (d:Nat->Int) (c1:Nat) (told:Str) (tt:Nat):Rs2:=lawG kt w (g2L7 x r) ad tk (e4 (ad 0) (ad 1) (ad 2) (ad 3)) 17 4 1060 [fr14 w.params τ v d,oCell (some (.ref c1)),oCell (some (.str told tt)),oCell none] 4 zo66 zo67
noncomputable def g2L6 (x:LL) (r:Nat->Str):LL:={ (x.jkm (fun q=>match q with | 10=>999 | 11=>999 | 12=>6 | 13=>999 | 14=>6 | 15=>999 | 16=>6 | 17=>999 | 18=>6 | 19=>999 | 20=>6 | 21=>999 | 22=>6 | 24=>6 | 25=>12 | 26=>10 | _=>999) (fun q=>match q with | 10=>999 | 11=>999 | 13=>999 | 15=>999 | 17=>999 | 19=>999 | 21=>999 | 24=>999 | 25=>11 | 26=>12 | _=>999) (fun q=>match q with | 10=>999 | 11=>999 | 13=>999 | 15=>999 | 17=>999 | 19=>999 | 21=>999 | 24=>999 | 26=>0 | _=>999)) with S:=fun _=>[r 0,r 1,r 2,r 3,r 4,r 5] }
noncomputable def g2R6 (kt:KT) (w:World) (x:LL) (r:Nat->Str) (ad tk τ v:Nat->Nat) (d:Nat->Int) (c1:Nat) (told:Str) (tt:Nat):Rs2:=lawG kt w (g2L6 x r) ad tk (e4 (ad 0) (ad 1) (ad 2) (ad 3)) 17 4 960 [fr14 w.params τ v d,oCell (some (.ref c1)),oCell (some (.str told tt)),oCell none] 4 zo68 zo69
noncomputable def g2X7 (P:Params) (ad tk τ v:Nat->Nat) (d:Nat->Int) (c1:Nat) (told:Str) (tt:Nat):O4:=(some (),some (fr17 P (fun i=>match i with | 14=>tk 4 | 15=>tk 40 | 16=>tk 54 | i=>τ i) (fun i=>match i with | 14=>ad 4 | 15=>ad 6 | 16=>ad 13 | i=>v i) d),some (oCell (some (.ref c1))),some (oCell (some (.str told tt))),some (oCell none))
noncomputable def g2X6 (P:Params) (ad tk τ v:Nat->Nat) (d:Nat->Int) (c1:Nat) (told:Str) (tt:Nat):O4:=(some (),some (fr17 P (fun i=>match i with | 14=>tk 4 | 15=>tk 35 | 16=>tk 42 | i=>τ i) (fun i=>match i with | 14=>ad 4 | 15=>ad 6 | 16=>ad 6 | i=>v i) d),some (oCell (some (.ref c1))),some (oCell (some (.str told tt))),some (oCell none))
noncomputable def g2O7 (x:LL) (r:Nat->Str) (ad tk:Nat->Nat) (told:Str):List Prop:=[
 opSeq ad 14 16 1 (intsT (x.so 26) (dec (tk 55) (tk 56))) (upto30 tk 64) false,opInit ad 16 15,True,opWays x ad 13 26 [.int (Int.ofNat (r 0).length + Int.ofNat (r 6).length) (tk 50),.int (Int.ofNat (r 1).length) (tk 11),.int (Int.ofNat (r 2).length) (tk 16),.int (Int.ofNat (r 3).length) (tk 21),.int (Int.ofNat (r 4).length) (tk 26),.int (Int.ofNat (r 5).length) (tk 31)] 0,((x.L.l.sl 25).cps.toList == [60])=false,sOk (r 6) (-1) (x.L.l.sl 25),opApp ad 6 6,(r 6).length<1000,opApp ad 6 5,(r 5).length<1000,opApp ad 6 4,(r 4).length<1000,opApp ad 6 3,(r 3).length<1000,opApp ad 6 2,(r 2).length<1000,opApp ad 6 1,(r 1).length<1000,opApp ad 6 0,(r 0).length<1000,opPg (g2L7 x r) 10 told]
noncomputable def g2O6 (x:LL) (r:Nat->Str) (ad tk:Nat->Nat) (told:Str):List Prop:=[
 opSeq ad 10 12 1 (intsT (x.so 24) (dec (tk 43) (tk 44))) (upto30 tk 52) false,opInit ad 12 11,True,opWays x ad 6 24 [.int (Int.ofNat (r 0).length) (tk 6),.int (Int.ofNat (r 1).length) (tk 11),.int (Int.ofNat (r 2).length) (tk 16),.int (Int.ofNat (r 3).length) (tk 21),.int (Int.ofNat (r 4).length) (tk 26),.int (Int.ofNat (r 5).length) (tk 31)] 6,((x.L.l.sl 23).cps.toList == [60])=true,sOk (r 5) (-1) (x.L.l.sl 23),opApp ad 6 5,(r 5).length<1000,opApp ad 6 4,(r 4).length<1000,opApp ad 6 3,(r 3).length<1000,opApp ad 6 2,(r 2).length<1000,opApp ad 6 1,(r 1).length<1000,opApp ad 6 0,(r 0).length<1000,opPg (g2L6 x r) 10 told]
noncomputable def g3L (x:LL):LL:=x.jkm (fun q=>match q with | 10=>4 | 11=>5 | 12=>4 | 13=>4 | 14=>12 | 15=>7 | 16=>12 | 17=>9 | 18=>12 | 19=>12 | _=>999) (fun q=>match q with | 10=>5 | 11=>5 | 12=>8 | 13=>999 | 15=>999 | 17=>999 | 19=>6 | _=>999) (fun q=>match q with | 10=>999 | 11=>999 | 12=>999 | 13=>999 | 15=>999 | 17=>999 | 19=>999 | _=>999)
noncomputable def v17 (ad v:Nat->Nat) (i:Nat):Nat:=match i with | 4=>ad 4 | 9=>ad 5 | 11=>ad 6 | i=>v i
noncomputable def g3R (kt:KT) (w:World) (x:LL) (ad tk τ v:Nat->Nat) (d:Nat->Int) (c1:Nat) (told:Str) (tt:Nat) (f u r:Nat->Int) (tf tu tr:Nat->Nat) (nf nu nr:Nat):Rs2:=lawG kt w (g3L x) ad tk (e4 (ad 0) (ad 1) (ad 2) (ad 3)) 21 2 230 [fr17 w.params τ (v17 ad v) d,oCell (some (.ref c1)),oCell (some (.str told tt)),oCell none,oThree f tf nf,oThree u tu nu,oThree r tr nr] 7 zo70 zo71
noncomputable def g3X (P:Params) (x:LL) (ad tk τ v:Nat->Nat) (d:Nat->Int) (c1:Nat) (told:Str) (tt:Nat):O4:=(some (),some (fr18 P (fun i=>match i with | 17=>tk 12 | i=>τ i) (fun i=>match i with | 17=>ad 10 | i=>v17 ad v i) d),some (oCell (some (.ref c1))),some (oCell (some (.str told tt))),some (oCell (some (.str (tx (x.so 19)) (tk 28)))))
noncomputable def g3O (x:LL) (ad tk:Nat->Nat) (f u r:Nat->Int) (tf tu tr:Nat->Nat) (nf nu nr:Nat):List Prop:=[
 opRun x ad 19 12 6 (oThree (v3 (x.V 13 0) (x.V 15 0) (x.V 17 0)) (at3 (tk 14) (tk 19) (tk 24)) 3) (oThree r tr nr),
 opApp ad 12 2,opPl x ad 17 9 (o3 x 12 tk 8),opApp ad 12 1,opPl x ad 15 7 (o3 x 10 tk 0),opApp ad 12 0,opPl x ad 13 4 (oThree f tf nf),
 opT x ad 12 4 8 (oThree f tf nf) (o3 x 11 tk 4),opT x ad 11 5 5 (oThree u tu nu) (oThree u tu nu),opT x ad 10 4 5 (oThree f tf nf) (oThree u tu nu)]
noncomputable def g4R (kt:KT) (w:World) (ad tk τ v:Nat->Nat) (d:Nat->Int) (c1:Nat) (z2:Str) (t2:Nat) (z3:Str) (t3:Nat):Rs2:=lawG kt w LL.zero ad tk (e4 (ad 0) (ad 1) (ad 2) (ad 3)) 23 1 60 [fr18 w.params τ v d,oCell (some (.ref c1)),oCell (some (.str z2 t2)),oCell (some (.str z3 t3))] 4 0x1060505050005000505050005000505000000000000 0x1060505050005000505050005000505000000000000
noncomputable def g5L (x:LL):LL:=x.jkm (fun q=>match q with | 10=>4 | _=>999) (fun q=>match q with | 10=>999 | _=>999) (fun q=>match q with | 10=>999 | _=>999)
noncomputable def v19 (ad v:Nat->Nat) (i:Nat):Nat:=match i with | 18=>ad 4 | i=>v i
noncomputable def g5R (kt:KT) (w:World) (x:LL) (ad tk τ v:Nat->Nat) (d:Nat->Int) (c1:Nat) (z2:Str) (t2:Nat) (z3:Str) (t3:Nat) (vs:List Value) (nv:Nat):Rs2:=lawG kt w (g5L x) ad tk (e4 (ad 0) (ad 1) (ad 2) (ad 3)) 24 1 70 [fr19 w.params τ (v19 ad v) d,oCell (some (.ref c1)),oCell (some (.str z2 t2)),oCell (some (.str z3 t3)),oList vs nv] 5 0x10807070700070007070700070007070000000000000a03010000 0x10807070700070007070700070007070000000000000a03010000
noncomputable def gF (ad:Nat->Nat) (j:Nat):Nat:=match j with | 0=>ad 0 | 1=>ad 1 | 2=>ad 2 | 3=>ad 3 | 5=>ad 4 | 6=>ad 5 | 7=>ad 6 | _=>0
noncomputable def hF (ad:Nat->Nat) (j:Nat):Nat:=match j with | 0=>ad 0 | 1=>ad 1 | 2=>ad 2 | 3=>ad 3 | 4=>ad 5 | 5=>ad 6 | 6=>ad 7 | _=>0
noncomputable def gH (ad:Nat->Nat) (j:Nat):Nat:=match j with | 0=>ad 0 | 1=>ad 1 | 2=>ad 2 | 3=>ad 3 | 7=>ad 4 | 8=>ad 5 | 9=>ad 6 | _=>0
noncomputable def hH (ad:Nat->Nat) (j:Nat):Nat:=match j with | 0=>ad 0 | 1=>ad 1 | 2=>ad 2 | 3=>ad 3 | 4=>ad 7 | 5=>ad 8 | 6=>ad 9 | _=>0
noncomputable def q7f (ad:Nat->Nat) (j:Nat):Nat:=match j with | 0=>ad 0 | 1=>ad 1 | 2=>ad 2 | 3=>ad 3 | 4=>ad 4 | 5=>ad 5 | 6=>ad 6 | _=>0
noncomputable def csF (kt:KT) (w:World) (ad:Nat->Nat):Code:=(g4R kt w (gF ad) (fun _=>0) (fun _=>0) (fun _=>0) (fun _=>0) 0 ⟨⟨[]⟩⟩ 0 ⟨⟨[]⟩⟩ 0).scode
noncomputable def csH (kt:KT) (w:World) (ad:Nat->Nat):Code:=(g5R kt w LL.zero (gH ad) (fun _=>0) (fun _=>0) (fun _=>0) (fun _=>0) 0 ⟨⟨[]⟩⟩ 0 ⟨⟨[]⟩⟩ 0 [] 0).scode
noncomputable def lpO (L:List Obj) (k:Int) (m:Nat) (vs:List Value) (nv:Nat) (d:Obj):List Obj:=L++[oRit [.int k 0,.int (Int.ofNat m) 0,.int 1 0],oList vs nv,d]
noncomputable def dK (P:Params) (later:Bool) (t:Nat) (kv:Int) (tv:Nat):Obj:=match later with
 | true=>oDict [ky P wK t (.int kv tv)] 1
 | false=>oDict [] 0
noncomputable def lF (P:Params) (τ v:Nat->Nat) (d:Nat->Int) (c1:Nat) (z2:Str) (t2:Nat) (z:Str) (zt:Nat):List Obj:=[fr18 P τ v d,oCell (some (.ref c1)),oCell (some (.str z2 t2)),oCell (some (.str z zt))]
noncomputable def lH (P:Params) (τ v:Nat->Nat) (d:Nat->Int) (c1:Nat) (z2:Str) (t2:Nat) (z:Str) (zt:Nat):List Obj:=[fr19 P τ v d,oCell (some (.ref c1)),oCell (some (.str z zt)),oCell (some (.str z2 t2))]
noncomputable def f0R (kt:KT) (w:World) (c:Code) (ad tk:Nat->Nat) (L:List Obj) (o o2:Nat):Rs2:=match rowC w with
 | true=>run2 (mkL LL.zero kt w) ad tk 30 false c (denF c) .nil 0 (bt L) 7 0 o [] [] []
 | false=>run2 (mkL LL.zero kt w) ad tk 30 false c (denF c) .nil 0 (bt L) 7 0 o2 [] [] []
theorem f0R_eq {kt:KT} {w:World} {c:Code} {ad tk:Nat->Nat} {L:List Obj} {o o2:Nat}:f0R kt w c ad tk L o o2=run2 (mkL LL.zero kt w) ad tk 30 false c (denF c) .nil 0 (bt L) 7 0 (cond (rowC w) o o2) [] [] []:=by
 unfold f0R
 cases rowC w <;> rfl
noncomputable def fC (kt:KT) (w:World) (ad:Nat->Nat):Code:=(f0R kt w (csF kt w ad) (q7f ad) (fun _=>0) (lpO (lF w.params (fun _=>0) (fun _=>0) (fun _=>0) 0 ⟨⟨[]⟩⟩ 0 ⟨⟨[]⟩⟩ 0) 0 31 [] 0 (dK w.params false 0 0 0)) oF0 oF0b).acode
noncomputable def hC (kt:KT) (w:World) (ad:Nat->Nat):Code:=(f0R kt w (csH kt w ad) (q7f ad) (fun _=>0) (lpO (lH w.params (fun _=>0) (fun _=>0) (fun _=>0) 0 ⟨⟨[]⟩⟩ 0 ⟨⟨[]⟩⟩ 0) 0 31 [] 0 (dK w.params false 0 0 0)) oH0 oH0b).acode
noncomputable abbrev LpT:=Code×Option Obj×Option Obj×Option Obj×Option Obj×Option Obj×Option Obj×Option Obj
noncomputable def lpF (c:Code) (T:BT) (_:Nat):LpT:=(c,T.get 0,T.get 1,T.get 2,T.get 3,T.get 4,T.get 5,T.get 6)
noncomputable def tup7 (c:Code) (l:List Obj):LpT:=(c,l[0]?,l[1]?,l[2]?,l[3]?,l[4]?,l[5]?,l[6]?)
noncomputable def g4T:=Nat×Code×Option Obj×Option Obj×Option Obj×Option Obj×Option Obj×Option Obj×Option Obj
noncomputable def g4S (c:Code) (d:Nat) (T:BT) (_:Nat):g4T:=(d,c,T.get 0,T.get 1,T.get 2,T.get 3,T.get 5,T.get 6,T.get 7)
noncomputable def g4X (kt:KT) (w:World) (ad τ v:Nat->Nat) (d:Nat->Int) (c1:Nat) (z2:Str) (t2:Nat) (z3:Str) (t3:Nat):g4T:=(0,csF kt w (hF ad),some (fr18 w.params τ v d),some (oCell (some (.ref c1))),some (oCell (some (.str z2 t2))),some (oCell (some (.str z3 t3))),some (oRit [.int 0 0,.int (Int.ofNat 31) 0,.int 1 0]),some (oList [] 0),some (oDict [] 0))
noncomputable def g5T:=Nat×Code×Option Obj×Option Obj×Option Obj×Option Obj×Option Obj×Option Obj×Option Obj×Option Obj
noncomputable def g5S (c:Code) (d:Nat) (T:BT) (_:Nat):g5T:=(d,c,T.get 0,T.get 1,T.get 2,T.get 3,T.get 5,T.get 7,T.get 8,T.get 9)
noncomputable def g5X (kt:KT) (w:World) (x:LL) (ad tk τ v:Nat->Nat) (d:Nat->Int) (c1:Nat) (z2:Str) (t2:Nat) (z3:Str) (t3:Nat):g5T:=(0,csH kt w (hH ad),some (fr19 w.params τ (v19 ad v) d),some (oCell (some (.ref c1))),some (oCell (some (.str z2 t2))),some (oCell (some (.str z3 t3))),some (oList (intsT (x.so 10) (dec (tk 0) (tk 1))) (tk 2)),some (oRit [.int 0 0,.int (Int.ofNat 31) 0,.int 1 0]),some (oList [] 0),some (oDict [] 0))
noncomputable def fnL (x:LL):LL:=x.jkm (fun q=>match q with | _=>999) (fun q=>match q with | _=>999) (fun q=>match q with | _=>999)
noncomputable def fzL (x:LL):LL:=x.jkm (fun q=>match q with | 12=>5 | _=>999) (fun q=>match q with | _=>999) (fun q=>match q with | _=>999)
noncomputable def hnL (x:LL):LL:=x.jkm (fun q=>match q with | _=>999) (fun q=>match q with | _=>999) (fun q=>match q with | _=>999)
noncomputable def hzL (x:LL):LL:=x.jkm (fun q=>match q with | 11=>5 | _=>999) (fun q=>match q with | _=>999) (fun q=>match q with | _=>999)
noncomputable def lpR (kt:KT) (w:World) (x:LL) (c:Code) (ad tk:Nat->Nat) (L:List Obj) (n o:Nat):Rs2:=run2 (mkL x kt w) ad tk n false c (denF c) .nil 0 (bt L) 7 0 o [] [] []
structure LpS where
 τ:Nat->Nat
 v:Nat->Nat
 d:Nat->Int
 c1:Nat
 z2:Str
 t2:Nat
 z:Str
 zt:Nat
 k:Int
 m:Nat
 vs:List Value
 nv:Nat
 t:Nat
 kv:Int
 tv:Nat
noncomputable def LpS.start (y:LpS):LpS:={ y with k:=0,m:=31,vs:=[],nv:=0 }
noncomputable def LpS.atM (y:LpS) (m:Nat):LpS:={ y with m:=m }
noncomputable def LpS.lF (y:LpS) (P:Params) (later:Bool):List Obj:=lpO (Mine.lF P y.τ y.v y.d y.c1 y.z2 y.t2 y.z y.zt) y.k y.m y.vs y.nv (dK P later y.t y.kv y.tv)
noncomputable def LpS.lH (y:LpS) (P:Params) (later:Bool):List Obj:=lpO (Mine.lH P y.τ y.v y.d y.c1 y.z2 y.t2 y.z y.zt) y.k y.m y.vs y.nv (dK P later y.t y.kv y.tv)
noncomputable def kT (later:Bool) (y:LpS) (tk:Nat->Nat):Nat:=match later with | true=>y.t | false=>tk 1
noncomputable def lpX (c:Code) (L:List Obj) (P:Params) (later:Bool) (y:LpS) (tk:Nat->Nat) (vs:List Value) (nv:Nat):LpT:=tup7 c (L++[oRit [.int (y.k + 1) 0,.int (Int.ofNat (y.m + 1) - 1) 0,.int 1 0],oList vs nv,oDict [ky P wK (kT later y tk) (.int y.k (tk 0))] 1])
noncomputable def fnR (kt:KT) (w:World) (x:LL) (ad tk:Nat->Nat) (later:Bool) (y:LpS):Rs2:=lpR kt w (fnL x) (fC kt w ad) ad tk ((y.atM (y.m + 1)).lF w.params later) 90 oFn
noncomputable def fzR (kt:KT) (w:World) (x:LL) (ad tk:Nat->Nat) (later:Bool) (y:LpS):Rs2:=lpR kt w (fzL x) (fC kt w ad) ad tk ((y.atM (y.m + 1)).lF w.params later) 110 oFz
noncomputable def hnR (kt:KT) (w:World) (x:LL) (ad tk:Nat->Nat) (later:Bool) (y:LpS):Rs2:=lpR kt w (hnL x) (hC kt w ad) ad tk ((y.atM (y.m + 1)).lH w.params later) 60 oHn
noncomputable def hzR (kt:KT) (w:World) (x:LL) (ad tk:Nat->Nat) (later:Bool) (y:LpS):Rs2:=lpR kt w (hzL x) (hC kt w ad) ad tk ((y.atM (y.m + 1)).lH w.params later) 60 oHz
noncomputable def feR (kt:KT) (w:World) (ad tk:Nat->Nat) (y:LpS):Rs2:=lpR kt w LL.zero (fC kt w ad) ad tk ((y.atM 0).lF w.params true) 30 oFe
noncomputable def heR (kt:KT) (w:World) (ad tk:Nat->Nat) (y:LpS):Rs2:=lpR kt w LL.zero (hC kt w ad) ad tk ((y.atM 0).lH w.params true) 30 oHe
noncomputable abbrev O5:=Option Unit×Option Obj×Option Obj×Option Obj×Option Obj×Option Obj
noncomputable abbrev O6:=Option Unit×Option Obj×Option Obj×Option Obj×Option Obj×Option Obj×Option Obj
noncomputable def g5F (r:Result) (T:BT) (_:Nat):O6:=(okNext r,T.get 0,T.get 1,T.get 2,T.get 3,T.get 5,T.get 6)
noncomputable def feX (P:Params) (L:List Obj) (y:LpS):O6:=(some (),L[0]?,L[1]?,L[2]?,L[3]?,some (oList y.vs y.nv),some (oDict [ky P wK y.t (.int y.kv y.tv)] 1))
noncomputable def fnO (kt:KT) (w:World) (x:LL) (y:LpS):List Prop:=[iCmp 0 (x.L.l.il 11 - 20) 0=false,dGet kt w 211 (x.L.l.sl 10) (.int (x.L.l.il 11) (x.L.l.tk 11)),sOk y.z y.k (x.L.l.sl 10)]
noncomputable def fzO (kt:KT) (w:World) (x:LL) (ad:Nat->Nat) (y:LpS):List Prop:=[opApp ad 5 y.vs.length,IntMulOk 5 y.k,iCmp 0 (x.L.l.il 11 - 20) 0=true,dGet kt w 211 (x.L.l.sl 10) (.int (x.L.l.il 11) (x.L.l.tk 11)),sOk y.z y.k (x.L.l.sl 10)]
noncomputable def hnO (x:LL) (y:LpS):List Prop:=[((x.L.l.sl 10).cps.toList == [60])=false,sOk y.z y.k (x.L.l.sl 10)]
noncomputable def hzO (x:LL) (ad:Nat->Nat) (y:LpS):List Prop:=[opApp ad 5 y.vs.length,((x.L.l.sl 10).cps.toList == [60])=true,sOk y.z y.k (x.L.l.sl 10)]
noncomputable def kF (ad g:Nat->Nat) (j:Nat):Nat:=match j with | 0=>ad 0 | 1=>ad 1 | 2=>ad 2 | 3=>ad 3 | 6=>ad 4 | 7=>ad 5 | j=>g j
noncomputable def kH (ad g:Nat->Nat) (j:Nat):Nat:=match j with | 0=>ad 0 | 1=>ad 1 | 2=>ad 2 | 3=>ad 3 | 8=>ad 4 | 5=>ad 5 | 9=>ad 6 | j=>g j
noncomputable def tlR (kt:KT) (w:World) (x:LL) (ad tk:Nat->Nat) (rs:Rs2) (L:List Obj) (m n o:Nat):Rs2:=run2 (mkL x kt w) ad tk n false rs.sc (rs.sk (.ok .next)) rs.sκ rs.sd (bt L) m 0 o [] [] []
noncomputable def g4bR (kt:KT) (w:World) (g tk0 τ0 v0:Nat->Nat) (i0:Nat->Int) (d1:Nat) (y2:Str) (u2:Nat) (y3:Str) (u3:Nat) (ad tk τ v:Nat->Nat) (d:Nat->Int) (c1:Nat) (z2:Str) (t2:Nat) (z3:Str) (t3:Nat) (vs:List Value) (nv:Nat) (t:Nat) (kv:Int) (tv:Nat):Rs2:=tlR kt w LL.zero ad tk (g4R kt w (kF ad g) tk0 τ0 v0 i0 d1 y2 u2 y3 u3) [fr18 w.params τ v d,oCell (some (.ref c1)),oCell (some (.str z2 t2)),oCell (some (.str z3 t3)),oList vs nv,oDict [ky w.params wK t (.int kv tv)] 1] 6 30 oG4b
noncomputable def g4bF (r:Result) (T:BT) (_:Nat):O5:=(okNext r,T.get 0,T.get 1,T.get 2,T.get 3,T.get 4)
noncomputable def g4bX (P:Params) (ad tk τ v:Nat->Nat) (d:Nat->Int) (c1:Nat) (z2:Str) (t2:Nat) (z3:Str) (t3:Nat) (vs:List Value) (nv:Nat):O5:=(some (),some (fr19 P (fun i=>match i with | 18=>tk 0 | i=>τ i) (fun i=>match i with | 18=>ad 4 | i=>v i) d),some (oCell (some (.ref c1))),some (oCell (some (.str z2 t2))),some (oCell (some (.str z3 t3))),some (oList vs nv))
noncomputable def g5bL (x:LL):LL:=x.jkm (fun q=>match q with | 10=>5 | _=>999) (fun q=>match q with | 10=>4 | _=>999) (fun q=>match q with | 10=>1 | _=>999)
noncomputable def g5bR (kt:KT) (w:World) (x0:LL) (g tk0 τ0 v0:Nat->Nat) (i0:Nat->Int) (d1:Nat) (y2:Str) (u2:Nat) (y3:Str) (u3:Nat) (ws0:List Value) (nw0:Nat) (ad tk τ v:Nat->Nat) (d:Nat->Int) (c1:Nat) (z2:Str) (t2:Nat) (z3:Str) (t3:Nat) (vs:List Value) (nv:Nat) (ws:List Value) (nw:Nat) (t:Nat) (kv:Int) (tv:Nat):Rs2:=tlR kt w (g5bL LL.zero) ad tk (g5R kt w x0 (kH ad g) tk0 τ0 v0 i0 d1 y2 u2 y3 u3 ws0 nw0) [fr19 w.params τ v d,oCell (some (.ref c1)),oCell (some (.str z2 t2)),oCell (some (.str z3 t3)),oList vs nv,oList ws nw,oDict [ky w.params wK t (.int kv tv)] 1] 7 40 oG5b
noncomputable def retB (r:Result) (_:BT) (_:Nat):Option Bool:=match r with
 | .ok (.ret (.bool b))=>some b
 | _=>none
noncomputable def lw_def_ (kt:Params->KT):Prop:=∀ P,(defAt (kt P) 270).isSome=true
noncomputable def lw_begin_ (kt:Params->KT):Prop:=∀ (w:World) ad tk vs n,(lawA (kt w.params) w ad tk vs n).agn lawAF=some (lawAX (kt w.params) w ad tk vs n,[],(lawA (kt w.params) w ad tk vs n).l1,(lawA (kt w.params) w ad tk vs n).l1,(lawA (kt w.params) w ad tk vs n).s1,(lawA (kt w.params) w ad tk vs n).s1)
noncomputable def lw_g02 (kt:Params->KT):Prop:=∀ (w:World) x ad tk τ v n a b ta tb rest,(g0R2 (kt w.params) w x ad tk τ v n a b ta tb rest).dn g0F=some (g0X w.params ad tk τ v 10 (a.fmod 1000000) (b.fmod 1000000) (.int a ta::.int b tb::rest) n,[opApp ad 8 1,opApp ad 8 0,opCut ad (.int a ta::.int b tb::rest) n (tk 0) [.int a ta,.int b tb]],(g0R2 (kt w.params) w x ad tk τ v n a b ta tb rest).l1,(g0R2 (kt w.params) w x ad tk τ v n a b ta tb rest).l1,(g0R2 (kt w.params) w x ad tk τ v n a b ta tb rest).s1,(g0R2 (kt w.params) w x ad tk τ v n a b ta tb rest).s1)
noncomputable def lw_g01 (kt:Params->KT):Prop:=∀ (w:World) x ad tk τ v n a ta,(g0R1 (kt w.params) w x ad tk τ v n a ta).dn g0F=some (g0X w.params ad tk τ v 5 (a.fmod 1000000) 47 [.int a ta] n,[opApp ad 8 0,opCut ad [.int a ta] n (tk 0) [.int a ta]],(g0R1 (kt w.params) w x ad tk τ v n a ta).l1,(g0R1 (kt w.params) w x ad tk τ v n a ta).l1,(g0R1 (kt w.params) w x ad tk τ v n a ta).s1,(g0R1 (kt w.params) w x ad tk τ v n a ta).s1)
noncomputable def lw_g00 (kt:Params->KT):Prop:=∀ (w:World) x ad tk τ v n ,(g0R0 (kt w.params) w x ad tk τ v n ).dn g0F=some (g0X w.params ad tk τ v 0 30 47 [] n,[opCut ad [] n (tk 0) []],(g0R0 (kt w.params) w x ad tk τ v n ).l1,(g0R0 (kt w.params) w x ad tk τ v n ).l1,(g0R0 (kt w.params) w x ad tk τ v n ).s1,(g0R0 (kt w.params) w x ad tk τ v n ).s1)
noncomputable def lw_g1 (kt:Params->KT):Prop:=∀ (w:World) x ad tk τ v d f s tf ts nf ns,(g1R (kt w.params) w x ad tk τ v d f s tf ts nf ns).dn g1F=some (g1X w.params x ad tk τ v d f s tf ts nf ns,g1O x ad tk s ts ns,(g1R (kt w.params) w x ad tk τ v d f s tf ts nf ns).l1,(g1R (kt w.params) w x ad tk τ v d f s tf ts nf ns).l1,(g1R (kt w.params) w x ad tk τ v d f s tf ts nf ns).s1,(g1R (kt w.params) w x ad tk τ v d f s tf ts nf ns).s1)
noncomputable def lw_ga (kt:Params->KT):Prop:=∀ (w:World) ad y,(gaY (kt w.params) w ad y).stq gaS=some ((0,some ("sum",ad 5),lt7 (ruL w.params ad y.τ y.v y.d y.n y.b y.s y.tn y.tb y.ts y.nn y.nb y.ns)),[],(gaY (kt w.params) w ad y).l1,(gaY (kt w.params) w ad y).l1,(gaY (kt w.params) w ad y).s1,(gaY (kt w.params) w ad y).s1)
noncomputable def lw_gb (kt:Params->KT):Prop:=∀ (w:World) ad tk g y σ tσ,(gbY (kt w.params) w ad tk g y σ tσ).stq gaS=some ((0,some ("sum",ad 6),lt7 (ruL w.params ad y.τ y.v y.d y.n y.b y.s y.tn y.tb y.ts y.nn y.nb y.ns)),[],(gbY (kt w.params) w ad tk g y σ tσ).l1,(gbY (kt w.params) w ad tk g y σ tσ).l1,(gbY (kt w.params) w ad tk g y σ tσ).s1,(gbY (kt w.params) w ad tk g y σ tσ).s1)
noncomputable def lw_gc (kt:Params->KT):Prop:=∀ (w:World) ad tk adb tkb g y σ tσ ρ tρ,(gcY (kt w.params) w ad tk adb tkb g y σ tσ ρ tρ).dn gcF=some (gcZ w.params ad tk tkb y σ ρ tρ,[],(gcY (kt w.params) w ad tk adb tkb g y σ tσ ρ tρ).l1,(gcY (kt w.params) w ad tk adb tkb g y σ tσ ρ tρ).l1,(gcY (kt w.params) w ad tk adb tkb g y σ tσ ρ tρ).s1,(gcY (kt w.params) w ad tk adb tkb g y σ tσ ρ tρ).s1)
noncomputable def lw_gd (kt:Params->KT):Prop:=∀ (w:World) x ad tk τ v d n f s q r tn tf ts tq tr nn nf ns nq nr,(gdR (kt w.params) w x ad tk τ v d n f s q r tn tf ts tq tr nn nf ns nq nr).dn gdF=some (gdX w.params x ad tk τ v d n f r tn tf tr nn nf nr,gdO x ad tk n f s q r tf ts tq tr nf ns nq nr,(gdR (kt w.params) w x ad tk τ v d n f s q r tn tf ts tq tr nn nf ns nq nr).l1,(gdR (kt w.params) w x ad tk τ v d n f s q r tn tf ts tq tr nn nf ns nq nr).l1,(gdR (kt w.params) w x ad tk τ v d n f s q r tn tf ts tq tr nn nf ns nq nr).s1,(gdR (kt w.params) w x ad tk τ v d n f s q r tn tf ts tq tr nn nf ns nq nr).s1)
noncomputable def lw_g27 (kt:Params->KT):Prop:=∀ (w:World) x r ad tk τ v d c1 told tt,(g2R7 (kt w.params) w x r ad tk τ v d c1 told tt).dn g4F=some (g2X7 w.params ad tk τ v d c1 told tt,g2O7 x r ad tk told,(g2R7 (kt w.params) w x r ad tk τ v d c1 told tt).l1,(g2R7 (kt w.params) w x r ad tk τ v d c1 told tt).l1,(g2R7 (kt w.params) w x r ad tk τ v d c1 told tt).s1,(g2R7 (kt w.params) w x r ad tk τ v d c1 told tt).s1)
noncomputable def lw_g26 (kt:Params->KT):Prop:=∀ (w:World) x r ad tk τ v d c1 told tt,(g2R6 (kt w.params) w x r ad tk τ v d c1 told tt).dn g4F=some (g2X6 w.params ad tk τ v d c1 told tt,g2O6 x r ad tk told,(g2R6 (kt w.params) w x r ad tk τ v d c1 told tt).l1,(g2R6 (kt w.params) w x r ad tk τ v d c1 told tt).l1,(g2R6 (kt w.params) w x r ad tk τ v d c1 told tt).s1,(g2R6 (kt w.params) w x r ad tk τ v d c1 told tt).s1)
noncomputable def lw_g3 (kt:Params->KT):Prop:=∀ (w:World) x ad tk τ v d c1 told tt f u r tf tu tr nf nu nr,(g3R (kt w.params) w x ad tk τ v d c1 told tt f u r tf tu tr nf nu nr).dn g4F=some (g3X w.params x ad tk τ v d c1 told tt,g3O x ad tk f u r tf tu tr nf nu nr,(g3R (kt w.params) w x ad tk τ v d c1 told tt f u r tf tu tr nf nu nr).l1,(g3R (kt w.params) w x ad tk τ v d c1 told tt f u r tf tu tr nf nu nr).l1,(g3R (kt w.params) w x ad tk τ v d c1 told tt f u r tf tu tr nf nu nr).s1,(g3R (kt w.params) w x ad tk τ v d c1 told tt f u r tf tu tr nf nu nr).s1)
noncomputable def lw_g4 (kt:Params->KT):Prop:=∀ (w:World) ad tk τ v d c1 z2 t2 z3 t3,(g4R (kt w.params) w ad tk τ v d c1 z2 t2 z3 t3).stq g4S=some (g4X (kt w.params) w ad τ v d c1 z2 t2 z3 t3,[],(g4R (kt w.params) w ad tk τ v d c1 z2 t2 z3 t3).l1,(g4R (kt w.params) w ad tk τ v d c1 z2 t2 z3 t3).l1,(g4R (kt w.params) w ad tk τ v d c1 z2 t2 z3 t3).s1,(g4R (kt w.params) w ad tk τ v d c1 z2 t2 z3 t3).s1)
noncomputable def lw_f0 (kt:Params->KT):Prop:=∀ (w:World) ad tk y,(f0R (kt w.params) w (csF (kt w.params) w ad) ad tk ((LpS.start y).lF w.params false) oF0 oF0b).agn lpF=some (tup7 (fC (kt w.params) w ad) ((LpS.start y).lF w.params false),[],(f0R (kt w.params) w (csF (kt w.params) w ad) ad tk ((LpS.start y).lF w.params false) oF0 oF0b).l1,(f0R (kt w.params) w (csF (kt w.params) w ad) ad tk ((LpS.start y).lF w.params false) oF0 oF0b).l1,(f0R (kt w.params) w (csF (kt w.params) w ad) ad tk ((LpS.start y).lF w.params false) oF0 oF0b).s1,(f0R (kt w.params) w (csF (kt w.params) w ad) ad tk ((LpS.start y).lF w.params false) oF0 oF0b).s1)
noncomputable def lw_fplain (kt:Params->KT):Prop:=∀ (w:World) ad,callerF (fC (kt w.params) w ad)=false
noncomputable def lw_csplain (kt:Params->KT):Prop:=∀ (w:World) ad,callerF (csF (kt w.params) w ad)=false
noncomputable def lw_fn (kt:Params->KT):Prop:=∀ (w:World) x ad tk b y,(fnR (kt w.params) w x ad tk b y).agn lpF=some (lpX (fC (kt w.params) w ad) (lF w.params y.τ y.v y.d y.c1 y.z2 y.t2 y.z y.zt) w.params b y tk y.vs y.nv,fnO (kt w.params) w x y,(fnR (kt w.params) w x ad tk b y).l1,(fnR (kt w.params) w x ad tk b y).l1,(fnR (kt w.params) w x ad tk b y).s1,(fnR (kt w.params) w x ad tk b y).s1)
noncomputable def lw_fz (kt:Params->KT):Prop:=∀ (w:World) x ad tk b y,(fzR (kt w.params) w x ad tk b y).agn lpF=some (lpX (fC (kt w.params) w ad) (lF w.params y.τ y.v y.d y.c1 y.z2 y.t2 y.z y.zt) w.params b y tk (y.vs++[.int ((5 * y.k).fmod 31) (tk 10)]) (y.nv + 1),fzO (kt w.params) w x ad y,(fzR (kt w.params) w x ad tk b y).l1,(fzR (kt w.params) w x ad tk b y).l1,(fzR (kt w.params) w x ad tk b y).s1,(fzR (kt w.params) w x ad tk b y).s1)
noncomputable def lw_fe (kt:Params->KT):Prop:=∀ (w:World) ad tk y,(feR (kt w.params) w ad tk y).dn g5F=some (feX w.params (lF w.params y.τ y.v y.d y.c1 y.z2 y.t2 y.z y.zt) y,[],(feR (kt w.params) w ad tk y).l1,(feR (kt w.params) w ad tk y).l1,(feR (kt w.params) w ad tk y).s1,(feR (kt w.params) w ad tk y).s1)
noncomputable def lw_g4b (kt:Params->KT):Prop:=∀ (w:World) g tk0 τ0 v0 i0 d1 y2 u2 y3 u3 ad tk τ v d c1 z2 t2 z3 t3 vs nv t kv tv,(g4bR (kt w.params) w g tk0 τ0 v0 i0 d1 y2 u2 y3 u3 ad tk τ v d c1 z2 t2 z3 t3 vs nv t kv tv).dn g4bF=some (g4bX w.params ad tk τ v d c1 z2 t2 z3 t3 vs nv,[],(g4bR (kt w.params) w g tk0 τ0 v0 i0 d1 y2 u2 y3 u3 ad tk τ v d c1 z2 t2 z3 t3 vs nv t kv tv).l1,(g4bR (kt w.params) w g tk0 τ0 v0 i0 d1 y2 u2 y3 u3 ad tk τ v d c1 z2 t2 z3 t3 vs nv t kv tv).l1,(g4bR (kt w.params) w g tk0 τ0 v0 i0 d1 y2 u2 y3 u3 ad tk τ v d c1 z2 t2 z3 t3 vs nv t kv tv).s1,(g4bR (kt w.params) w g tk0 τ0 v0 i0 d1 y2 u2 y3 u3 ad tk τ v d c1 z2 t2 z3 t3 vs nv t kv tv).s1)
noncomputable def lw_g5 (kt:Params->KT):Prop:=∀ (w:World) x ad tk τ v d c1 z2 t2 z3 t3 vs nv,(g5R (kt w.params) w x ad tk τ v d c1 z2 t2 z3 t3 vs nv).stq g5S=some (g5X (kt w.params) w x ad tk τ v d c1 z2 t2 z3 t3,[opSort x ad 4 10 vs nv],(g5R (kt w.params) w x ad tk τ v d c1 z2 t2 z3 t3 vs nv).l1,(g5R (kt w.params) w x ad tk τ v d c1 z2 t2 z3 t3 vs nv).l1,(g5R (kt w.params) w x ad tk τ v d c1 z2 t2 z3 t3 vs nv).s1,(g5R (kt w.params) w x ad tk τ v d c1 z2 t2 z3 t3 vs nv).s1)
noncomputable def lw_h0 (kt:Params->KT):Prop:=∀ (w:World) ad tk y,(f0R (kt w.params) w (csH (kt w.params) w ad) ad tk ((LpS.start y).lH w.params false) oH0 oH0b).agn lpF=some (tup7 (hC (kt w.params) w ad) ((LpS.start y).lH w.params false),[],(f0R (kt w.params) w (csH (kt w.params) w ad) ad tk ((LpS.start y).lH w.params false) oH0 oH0b).l1,(f0R (kt w.params) w (csH (kt w.params) w ad) ad tk ((LpS.start y).lH w.params false) oH0 oH0b).l1,(f0R (kt w.params) w (csH (kt w.params) w ad) ad tk ((LpS.start y).lH w.params false) oH0 oH0b).s1,(f0R (kt w.params) w (csH (kt w.params) w ad) ad tk ((LpS.start y).lH w.params false) oH0 oH0b).s1)
noncomputable def lw_hplain (kt:Params->KT):Prop:=∀ (w:World) ad,callerF (hC (kt w.params) w ad)=false
noncomputable def lw_chplain (kt:Params->KT):Prop:=∀ (w:World) ad,callerF (csH (kt w.params) w ad)=false
noncomputable def lw_hn (kt:Params->KT):Prop:=∀ (w:World) x ad tk b y,(hnR (kt w.params) w x ad tk b y).agn lpF=some (lpX (hC (kt w.params) w ad) (lH w.params y.τ y.v y.d y.c1 y.z2 y.t2 y.z y.zt) w.params b y tk y.vs y.nv,hnO x y,(hnR (kt w.params) w x ad tk b y).l1,(hnR (kt w.params) w x ad tk b y).l1,(hnR (kt w.params) w x ad tk b y).s1,(hnR (kt w.params) w x ad tk b y).s1)
noncomputable def lw_hz (kt:Params->KT):Prop:=∀ (w:World) x ad tk b y,(hzR (kt w.params) w x ad tk b y).agn lpF=some (lpX (hC (kt w.params) w ad) (lH w.params y.τ y.v y.d y.c1 y.z2 y.t2 y.z y.zt) w.params b y tk (y.vs++[.int y.k (tk 0)]) (y.nv + 1),hzO x ad y,(hzR (kt w.params) w x ad tk b y).l1,(hzR (kt w.params) w x ad tk b y).l1,(hzR (kt w.params) w x ad tk b y).s1,(hzR (kt w.params) w x ad tk b y).s1)
noncomputable def lw_he (kt:Params->KT):Prop:=∀ (w:World) ad tk y,(heR (kt w.params) w ad tk y).dn g5F=some (feX w.params (lH w.params y.τ y.v y.d y.c1 y.z2 y.t2 y.z y.zt) y,[],(heR (kt w.params) w ad tk y).l1,(heR (kt w.params) w ad tk y).l1,(heR (kt w.params) w ad tk y).s1,(heR (kt w.params) w ad tk y).s1)
noncomputable def lw_g5b (kt:Params->KT):Prop:=∀ (w:World) x0 g tk0 τ0 v0 i0 d1 y2 u2 y3 u3 ws0 nw0 ad tk τ v d c1 z2 t2 z3 t3 vs nv ws nw t kv tv,(g5bR (kt w.params) w x0 g tk0 τ0 v0 i0 d1 y2 u2 y3 u3 ws0 nw0 ad tk τ v d c1 z2 t2 z3 t3 vs nv ws nw t kv tv).dn retB=some (some true,[opSeq ad 5 4 2 ws vs true],(g5bR (kt w.params) w x0 g tk0 τ0 v0 i0 d1 y2 u2 y3 u3 ws0 nw0 ad tk τ v d c1 z2 t2 z3 t3 vs nv ws nw t kv tv).l1,(g5bR (kt w.params) w x0 g tk0 τ0 v0 i0 d1 y2 u2 y3 u3 ws0 nw0 ad tk τ v d c1 z2 t2 z3 t3 vs nv ws nw t kv tv).l1,(g5bR (kt w.params) w x0 g tk0 τ0 v0 i0 d1 y2 u2 y3 u3 ws0 nw0 ad tk τ v d c1 z2 t2 z3 t3 vs nv ws nw t kv tv).s1,(g5bR (kt w.params) w x0 g tk0 τ0 v0 i0 d1 y2 u2 y3 u3 ws0 nw0 ad tk τ v d c1 z2 t2 z3 t3 vs nv ws nw t kv tv).s1)
structure LawK (kt:Params->KT):Prop where
 def_:lw_def_ kt
 begin_:lw_begin_ kt
 g02:lw_g02 kt
 g01:lw_g01 kt
 g00:lw_g00 kt
 g1:lw_g1 kt
 ga:lw_ga kt
 gb:lw_gb kt
 gc:lw_gc kt
 gd:lw_gd kt
 g27:lw_g27 kt
 g26:lw_g26 kt
 g3:lw_g3 kt
 g4:lw_g4 kt
 f0:lw_f0 kt
 fplain:lw_fplain kt
 csplain:lw_csplain kt
 fn:lw_fn kt
 fz:lw_fz kt
 fe:lw_fe kt
 g4b:lw_g4b kt
 g5:lw_g5 kt
 h0:lw_h0 kt
 hplain:lw_hplain kt
 chplain:lw_chplain kt
 hn:lw_hn kt
 hz:lw_hz kt
 he:lw_he kt
 g5b:lw_g5b kt
section
variable [Bs]
structure LSt (N:Nat) (h:Heap) (as:List Nat) (os:List Obj):Prop where
 nodup:as.Nodup
 off:∀ a∈as,N≤a
 objs:as.map h.get? = os.map some
theorem at_map {h:Heap} {as:List Nat} {os:List Obj} (e:as.map h.get? = os.map some) {i:Nat} (hi:i<as.length):h.get? (as.getD i 0)=some (os.getD i default):=by
 have z:=congrArg (fun l:List (Option Obj)=>l[i]?) e
 have hl:as.length=os.length:=by
  have:=congrArg List.length e
  simpa using this
 simp only [List.getElem?_map,List.getElem?_eq_getElem hi,Option.map_some] at z
 rw [List.getD_eq_getElem?_getD,List.getD_eq_getElem?_getD,List.getElem?_eq_getElem hi]
 rw [List.getElem?_eq_getElem (hl ▸ hi)] at z ⊢
 simpa using z
theorem LSt.pick {N:Nat} {h:Heap} {as:List Nat} {os:List Obj} (S:LSt N h as os) (js:List Nat) (hn:js.Nodup) (hl:∀ j∈js,j<as.length):LSt N h (js.map fun j=>as.getD j 0) (js.map fun j=>os.getD j default):=by
 refine ⟨?_,fun a ha=>?_,?_⟩
 · rw [List.nodup_iff_pairwise_ne] at hn ⊢
   rw [List.pairwise_map]
   refine hn.imp_of_mem fun {a b} ha hb hab q=>hab ?_
   rw [List.getD_eq_getElem?_getD,List.getD_eq_getElem?_getD,List.getElem?_eq_getElem (hl a ha),List.getElem?_eq_getElem (hl b hb)] at q
   exact (List.getElem_inj S.nodup).mp q
 · obtain ⟨j,hj,rfl⟩:=List.mem_map.mp ha
   rw [List.getD_eq_getElem?_getD,List.getElem?_eq_getElem (hl j hj)]
   exact S.off _ (List.getElem_mem _)
 · rw [List.map_map,List.map_map]
   exact List.map_congr_left fun j hj=>at_map S.objs (hl j hj)
theorem LSt.keeps {N:Nat} {h h':Heap} {as:List Nat} {os:List Obj} (S:LSt N h as os) (k:∀ (b:Nat) o,N≤b->h.get? b=some o->h'.get? b=some o):LSt N h' as os:=by
 refine ⟨S.nodup,S.off,?_⟩
 rw [← S.objs]
 refine List.map_congr_left fun a ha=>?_
 obtain ⟨i,hi,rfl⟩:=List.mem_iff_getElem.mp ha
 have:=at_map S.objs hi
 rw [List.getD_eq_getElem?_getD,List.getElem?_eq_getElem hi] at this
 have this:h.get? as[i]=some _:=this
 rw [this]
 exact k _ _ (S.off _ ha) this
theorem LSt.left {N:Nat} {h:Heap} {as bs:List Nat} {os ps:List Obj} (S:LSt N h (as++bs) (os++ps)) (hl:as.length=os.length):as.map h.get? = os.map some:=by
 have:=S.objs
 rw [List.map_append,List.map_append] at this
 exact (List.append_inj this (by simp [hl])).1
theorem LSt.right {N:Nat} {h:Heap} {as bs:List Nat} {os ps:List Obj} (S:LSt N h (as++bs) (os++ps)) (hl:as.length=os.length):bs.map h.get? = ps.map some:=by
 have:=S.objs
 rw [List.map_append,List.map_append] at this
 exact (List.append_inj this (by simp [hl])).2
theorem LSt.next {kt:KT} {N:Nat} {I:Heap->Prop} {h h':Heap} {as bs:List Nat} {os ps os':List Obj} {f:Nat->Nat} {T:BT} {m:Nat} (S:LSt N h (as++bs) (os++ps)) (hl:as.length=os.length) (D:Rep2 kt N I (adJ as f) h as.length h' T m) (js:List Nat) (e:js.map T.get=os'.map some) (hn:js.Nodup):LSt N h' (js.map (adJ as f)++bs) (os'++ps):=by
 have z:=next_as2 D js os' e hn
 have hat:∀ j∈js,j<m:=fun j hj=>by
  obtain ⟨i,hi,rfl⟩:=List.mem_iff_getElem.mp hj
  have y:=congrArg (fun l:List (Option Obj)=>l[i]?) e
  simp only [List.getElem?_map,List.getElem?_eq_getElem hi,Option.map_some] at y
  cases q:os'[i]? with
  | none=>rw [q] at y; cases y
  | some x=>rw [q] at y; simp only [Option.map_some,Option.some.injEq] at y; exact (D.own _ x y).1
 have hb:=S.right hl
 obtain ⟨n1,n2,n3⟩:=List.nodup_append.mp S.nodup
 have hat2:∀ b∈bs,∃ o,h.get? b=some o:=fun b hb'=>by
  obtain ⟨i,hi,rfl⟩:=List.mem_iff_getElem.mp hb'
  have:=at_map hb hi
  rw [List.getD_eq_getElem?_getD,List.getElem?_eq_getElem hi] at this
  exact ⟨_,this⟩
 have dis:∀ j,j<m->∀ b∈bs,@Ne Nat (adJ as f j) b:=fun j hj b hb'=>by
  by_cases q:j<as.length
  · have:adJ as f j=as[j]:=by
     unfold adJ
     rw [if_pos q,List.getD_eq_getElem?_getD,List.getElem?_eq_getElem q]
     rfl
    rw [this]
    exact n3 _ (List.getElem_mem _) _ hb'
  · have h1:=D.new j (by exact om8 q) hj
    obtain ⟨o,ho⟩:=hat2 b hb'
    have h2:=Heap.lt_size ho
    exact fun q=>by rw [q] at h1; exact absurd h2 (Nat.not_lt.mpr h1)
 refine ⟨?_,fun a ha=>?_,?_⟩
 · refine List.nodup_append.mpr ⟨z.1,n2,fun a ha b hb'=>?_⟩
   obtain ⟨j,hj,rfl⟩:=List.mem_map.mp ha
   exact dis j (hat j hj) b hb'
 · rcases List.mem_append.mp ha with ha | ha
   · obtain ⟨j,hj,rfl⟩:=List.mem_map.mp ha
     exact D.off j (hat j hj)
   · exact S.off a (List.mem_append_right _ ha)
 · rw [List.map_append,List.map_append,z.2,← hb]
   congr 1
   refine List.map_congr_left fun b hb'=>?_
   obtain ⟨o,ho⟩:=hat2 b hb'
   rw [ho]
   exact D.keep b o (S.off b (List.mem_append_right _ hb')) ho fun j hj=>dis j hj b hb'
theorem bodyT_drop {w:World} {A:Around} {s:Shared} {c:Code} {env:Env} {Q:Flow->Shared->Prop} {E:Value->Shared->Prop} (body:List Stmt) (i n:Nat)
 (h:Means thePw w A (fun r s'=>match r with | .ok .next=>wpOwn (model thePw w) A c (bodyT (body.drop (i + n)) env) Q E s' | .ok f=>Q f s' | .error e=>E e s') false c (grpT ((body.drop i).take n) env) .nil s) :
 wpOwn (model thePw w) A c (bodyT (body.drop i) env) Q E s:=by
 have e:body.drop i=(body.drop i).take n++body.drop (i + n):=by
  rw [← List.drop_drop,List.take_append_drop]
 rw [e]
 refine bodyT_append _ _ ?_
 refine wpOwn_mono (grp_own h) (fun f s' hf=>?_) fun _ _ h=>h
 cases f <;> exact hf
theorem grp_run {kt:Params->KT} {w:World} {A:Around} {N:Nat} {x:LL} {e:Nat->Nat} {Q:Flow->Shared->Prop} {E:Value->Shared->Prop} {s:Shared} {fuel o:Nat} {X:Type} (i n:Nat) (as:List Nat) (l:List Obj) (C:CxL kt w N A s) (hn:as.Nodup) (ho:as.map s.heap.get? = l.map some) (off:∀ a∈as,N≤a)
 (F:Result->BT->Nat->X) (X':(Nat->Nat)->(Nat->Nat)->X) (ops:(Nat->Nat)->(Nat->Nat)->List Prop) (hF:∀ r T m ad tk,F r T m=X' ad tk->r = .ok .next)
 (eq:∀ f tk:Nat->Nat,(run2 (mkL x (kt w.params) w) (adJ as f) tk fuel false (lawC (kt w.params) w e) (grpT (((lawBody (kt w.params)).drop i).take n) (lawEnv (kt w.params) w e)) .nil 0 (bt l) as.length 0 o [] [] []).dn F=some (X' (adJ as f) tk,ops (adJ as f) tk,(run2 (mkL x (kt w.params) w) (adJ as f) tk fuel false (lawC (kt w.params) w e) (grpT (((lawBody (kt w.params)).drop i).take n) (lawEnv (kt w.params) w e)) .nil 0 (bt l) as.length 0 o [] [] []).l1,(run2 (mkL x (kt w.params) w) (adJ as f) tk fuel false (lawC (kt w.params) w e) (grpT (((lawBody (kt w.params)).drop i).take n) (lawEnv (kt w.params) w e)) .nil 0 (bt l) as.length 0 o [] [] []).l1,(run2 (mkL x (kt w.params) w) (adJ as f) tk fuel false (lawC (kt w.params) w e) (grpT (((lawBody (kt w.params)).drop i).take n) (lawEnv (kt w.params) w e)) .nil 0 (bt l) as.length 0 o [] [] []).s1,(run2 (mkL x (kt w.params) w) (adJ as f) tk fuel false (lawC (kt w.params) w e) (grpT (((lawBody (kt w.params)).drop i).take n) (lawEnv (kt w.params) w e)) .nil 0 (bt l) as.length 0 o [] [] []).s1))
 (hop:∀ f tk:Nat->Nat,∀ p∈ops (adJ as f) tk,p)
 (hR:∀ h' G' t' (f tk:Nat->Nat) r T' m',F r T' m'=X' (adJ as f) tk->Rep2 (kt w.params) N (Cas G') (adJ as f) s.heap as.length h' T' m'->CxL kt w N A ⟨h',G',s.drawn,t',s.os⟩->wpOwn (model thePw w) A (lawC (kt w.params) w e) (bodyT ((lawBody (kt w.params)).drop (i + n)) (lawEnv (kt w.params) w e)) Q E ⟨h',G',s.drawn,t',s.os⟩) :
 wpOwn (model thePw w) A (lawC (kt w.params) w e) (bodyT ((lawBody (kt w.params)).drop i) (lawEnv (kt w.params) w e)) Q E s:=by
 refine bodyT_drop _ i n ?_
 refine seg2_dn (E:=mkL x (kt w.params) w) (I:=Cas) as l C.cx2 hn ho off trivial rfl (Nat.le_refl _) (Nat.zero_le _) F X' ops eq hop ?_
 intro h' G' t' f tk r T' m' eF D
 obtain rfl:=hF _ _ _ _ _ eF
 exact hR h' G' t' f tk _ T' m' eF D (C.to D.base D.inv D.size)
theorem grp_runL {kt:Params->KT} {w:World} {A:Around} {N:Nat} {x:LL} {e:Nat->Nat} {Q:Flow->Shared->Prop} {E:Value->Shared->Prop} {s:Shared} {fuel o o2:Nat} {X:Type} (i n:Nat) (as:List Nat) (l:List Obj) (C:CxL kt w N A s) (hn:as.Nodup) (ho:as.map s.heap.get? = l.map some) (off:∀ a∈as,N≤a)
 (F:Result->BT->Nat->X) (X':(Nat->Nat)->(Nat->Nat)->X) (ops:(Nat->Nat)->(Nat->Nat)->List Prop) (hF:∀ r T m ad tk,F r T m=X' ad tk->r = .ok .next)
 (eq:∀ f tk:Nat->Nat,(lawG (kt w.params) w x (adJ as f) tk e i n fuel l as.length o o2).dn F=some (X' (adJ as f) tk,ops (adJ as f) tk,(lawG (kt w.params) w x (adJ as f) tk e i n fuel l as.length o o2).l1,(lawG (kt w.params) w x (adJ as f) tk e i n fuel l as.length o o2).l1,(lawG (kt w.params) w x (adJ as f) tk e i n fuel l as.length o o2).s1,(lawG (kt w.params) w x (adJ as f) tk e i n fuel l as.length o o2).s1))
 (hop:∀ f tk:Nat->Nat,∀ p∈ops (adJ as f) tk,p)
 (hR:∀ h' G' t' (f tk:Nat->Nat) r T' m',F r T' m'=X' (adJ as f) tk->Rep2 (kt w.params) N (Cas G') (adJ as f) s.heap as.length h' T' m'->CxL kt w N A ⟨h',G',s.drawn,t',s.os⟩->wpOwn (model thePw w) A (lawC (kt w.params) w e) (bodyT ((lawBody (kt w.params)).drop (i + n)) (lawEnv (kt w.params) w e)) Q E ⟨h',G',s.drawn,t',s.os⟩) :
 wpOwn (model thePw w) A (lawC (kt w.params) w e) (bodyT ((lawBody (kt w.params)).drop i) (lawEnv (kt w.params) w e)) Q E s :=
 grp_run i n as l C hn ho off F X' ops hF (fun f tk=>by have k:=eq f tk; rw [lawG_eq] at k; exact k) hop hR
noncomputable def GR (kt:Params->KT) (w:World) (A:Around) (e:Nat->Nat) (Q:Flow->Shared->Prop) (E:Value->Shared->Prop) (i:Nat) (r:Result) (s':Shared):Prop:=match r with
 | .ok .next=>wpOwn (model thePw w) A (lawC (kt w.params) w e) (bodyT ((lawBody (kt w.params)).drop i) (lawEnv (kt w.params) w e)) Q E s'
 | .ok f=>Q f s'
 | .error e=>E e s'
theorem grp_stq {kt:Params->KT} {w:World} {A:Around} {N:Nat} {x:LL} {e:Nat->Nat} {Q:Flow->Shared->Prop} {E:Value->Shared->Prop} {s:Shared} {fuel o o2:Nat} {X:Type} (i n:Nat) (as:List Nat) (l:List Obj) (C:CxL kt w N A s) (hn:as.Nodup) (ho:as.map s.heap.get? = l.map some) (off:∀ a∈as,N≤a)
 (F:Code->Nat->BT->Nat->X) (X':(Nat->Nat)->(Nat->Nat)->X) (ops:(Nat->Nat)->(Nat->Nat)->List Prop) (rs:(Nat->Nat)->(Nat->Nat)->Rs2) (hrs:∀ f tk:Nat->Nat,rs (adJ as f) tk=lawG (kt w.params) w x (adJ as f) tk e i n fuel l as.length o o2)
 (eq:∀ f tk:Nat->Nat,(rs (adJ as f) tk).stq F=some (X' (adJ as f) tk,ops (adJ as f) tk,(rs (adJ as f) tk).l1,(rs (adJ as f) tk).l1,(rs (adJ as f) tk).s1,(rs (adJ as f) tk).s1))
 (hop:∀ f tk:Nat->Nat,∀ p∈ops (adJ as f) tk,p)
 (hR:∀ h' G' t' (f tk:Nat->Nat) c' T' m',F c' (rs (adJ as f) tk).sd T' m'=X' (adJ as f) tk->Rep2 (kt w.params) N (Cas G') (adJ as f) s.heap as.length h' T' m'->CxL kt w N A ⟨h',G',s.drawn,t',s.os⟩->(rs (adJ as f) tk).sκ.okc->(rs (adJ as f) tk).sc.isCaller=false->(rs (adJ as f) tk).sκ.len≤(rs (adJ as f) tk).sd->(rs (adJ as f) tk).sκ.len≤42 →
  codeAny (model thePw w) (arK A (.cons (rs (adJ as f) tk).sc (rs (adJ as f) tk).sk (rs (adJ as f) tk).sκ)) c' (fun r s'=>Means thePw w A (GR kt w A e Q E (i + n)) false (rs (adJ as f) tk).sc ((rs (adJ as f) tk).sk r) (rs (adJ as f) tk).sκ s') ⟨h',G',s.drawn,t',s.os⟩) :
 wpOwn (model thePw w) A (lawC (kt w.params) w e) (bodyT ((lawBody (kt w.params)).drop i) (lawEnv (kt w.params) w e)) Q E s:=by
 refine bodyT_drop _ i n ?_
 refine seg2_stq (E:=mkL x (kt w.params) w) (I:=Cas) (o:=cond (rowC w) o o2) as l C.cx2 hn ho off trivial rfl (Nat.le_refl _) (Nat.zero_le _) F X' ops rs (fun f tk=>(hrs f tk).trans lawG_eq) eq hop ?_
 intro h' G' t' f tk c' T' m' eF D k1 k2 k3 k4
 exact hR h' G' t' f tk c' T' m' eF D (C.to D.base D.inv D.size) k1 k2 k3 k4
theorem okNext_some {r:Result} (h:okNext r=some ()):r = .ok .next:=by
 unfold okNext at h
 split at h
 · rfl
 · cases h
end
section
variable [Bs]
noncomputable def trn (s:Nat->Int):Nat->Int:=v3 (s 2) (s 0) (s 1)
noncomputable def nrm (s:Nat->Int):Nat->Int:=times (times s (trn s)) (trn (trn s))
noncomputable def ruF (s:Nat->Int):Nat->Int:=v3 (nrm s 0) (-[times s (trn s) 0,times s (trn s) 1,times s (trn s) 2].sum) [s 0,s 1,s 2].sum
noncomputable def bgF (f s:Nat->Int):Nat->Int:=v3 (plumaV f) (plumaV (times f s)) (plumaV (times f (times s s)))
noncomputable def otF (f s:Nat->Int):Nat->Int:=v3 (plumaV f) (plumaV (times f (trn s))) (plumaV (times f (times (trn s) (trn s))))
noncomputable def one30:List Int:=(List.range 30).map fun k=>Int.ofNat (k + 1)
noncomputable def lensOf (rows:List (List Int)):List Int:=rows.map fun r=>Int.ofNat r.length
noncomputable def PgOk (told:List Int):Prop :=
 (∃ r0 r1 r2 r3 r4 r5 r6:List Int,rowsOf told=[r0,r1,r2,r3,r4,r5,r6]∧(∃ d,r6.getLast? = some d∧0<d∧d<5)∧(r0.length<100∧r1.length<100∧r2.length<100∧r3.length<100∧r4.length<100∧r5.length<100∧r6.length<100)∧sortI (waysOf [Int.ofNat r0.length + Int.ofNat r6.length,Int.ofNat r1.length,Int.ofNat r2.length,Int.ofNat r3.length,Int.ofNat r4.length,Int.ofNat r5.length])=one30) ∨
 (∃ r0 r1 r2 r3 r4 r5:List Int,rowsOf told=[r0,r1,r2,r3,r4,r5]∧r5.getLast? = some 0∧(r0.length<100∧r1.length<100∧r2.length<100∧r3.length<100∧r4.length<100∧r5.length<100)∧sortI (waysOf [Int.ofNat r0.length,Int.ofNat r1.length,Int.ofNat r2.length,Int.ofNat r3.length,Int.ofNat r4.length,Int.ofNat r5.length])=one30)
noncomputable def nou (told:List Int):List Int:=((List.range 31).filter fun k=>told.getD k 1 == 0).map Int.ofNat
noncomputable def fiv (told:List Int):List Int:=((List.range 31).filter fun k=>told.getD k 1 == 0).map fun k=>(5 * Int.ofNat k).fmod 31
structure Fac (f s:Nat->Int):Prop where
 sf:Sm f
 ss:Sm s
 rs:∀ j,-100000<ruF s j∧ruF s j<100000
 t1:turnedIs s (trn s 0) (trn s 1) (trn s 2)=true
 t2:turnedIs (trn s) (trn (trn s) 0) (trn (trn s) 1) (trn (trn s) 2)=true
 five:∀ j,j<3->times s (times (times s s) (times s s)) j=trn s j
 grey:∃ n:Int,(n=1∨n=2∨n=3∨n=4)∧∀ j,j<3->nrm s j=n
 lum0:lumaIs f (plumaV f)=true
 lum1:lumaIs (times f s) (plumaV (times f s))=true
 lum2:lumaIs (times f (times s s)) (plumaV (times f (times s s)))=true
 endd:∀ j,j<3->(tell (ruF s) 31 [] (bgF f s)).2 j=(nrm s 0 * bgF f s j).fmod 5
 page:PgOk (tell (ruF s) 31 [] (bgF f s)).1
 other:sortI (fiv (tell (ruF s) 31 [] (otF f s)).1)=nou (tell (ruF s) 31 [] (bgF f s)).1
noncomputable def kn (p v:Nat->Nat) (i:Nat):Nat:=match i with | 4=>p 4 | 7=>p 7 | 8=>p 8 | 9=>p 9 | 10=>p 10 | 11=>p 11 | 18=>p 18 | i=>v i
theorem sm_v3 {a b c:Int} (ha:0≤a∧a<5) (hb:0≤b∧b<5) (hc:0≤c∧c<5):Sm (v3 a b c):=fun i=>by
 match i with
 | 0=>exact ha
 | 1=>exact hb
 | n + 2=>exact hc
theorem sm_times (a b:Nat->Int):Sm (times a b):=sm_v3 (fmod5 _) (fmod5 _) (fmod5 _)
theorem sm_trn {s:Nat->Int} (h:Sm s):Sm (trn s):=sm_v3 (h 2) (h 0) (h 1)
theorem seq3 {ad:Nat->Nat} {a b:Nat} {V W:Nat->Int} {f g:Nat->Nat} (h:∀ j,j<3->V j=W j):opSeq ad a b 1 (xs3 V f) (xs3 W g) false:=by
 refine ⟨rfl,rfl,rfl,rfl,rfl,fun j hj=>?_,?_⟩
 · have hj:j<3:=hj
   match j,hj with
   | 0,_ | 1,_ | 2,_=>rfl
 · show (!((V 0 == W 0) && ((V 1 == W 1) && ((V 2 == W 2) && true))))=false
   rw [h 0 (by decide),h 1 (by decide),h 2 (by decide)]
   simp
noncomputable def flN (n:Int) (q:Nat):UInt64:=match q with
 | 21=>(if n=1 then 4602678819172646912 else if n=2 then 4607182418800017408 else if n=3 then 4609434218613702656 else 4611686018427387904)
 | 22=>0
 | _=>(if n=1 then 4598175219545276416 else if n=2 then 4602678819172646912 else if n=3 then 4604930618986332160 else 4607182418800017408)
noncomputable def lawX (V:Nat->Nat->Int) (l:Lt) (so:Nat->List Int):LL:=⟨{ L2.zero with l:=l },V,so,fun _=>[],[]⟩
section
variable {kt:Params->KT} {w:World} {A:Around} {s:Shared} {N:Nat} {Q:Flow->Shared->Prop} {E:Value->Shared->Prop} {pr p1 p2 p3:Nat} {p τ v:Nat->Nat} {d:Nat->Int} {f st:Nat->Int} {tf ts:Nat->Nat} {nf ns:Nat}
variable (kt w A Q E pr p1 p2 p3) in
noncomputable def Wp (i:Nat) (s:Shared):Prop:=wpOwn (model thePw w) A (lawC (kt w.params) w (e4 pr p1 p2 p3)) (bodyT ((lawBody (kt w.params)).drop i) (lawEnv (kt w.params) w (e4 pr p1 p2 p3))) Q E s
theorem is3_o3 {x:LL} {q:Nat} {tk:Nat->Nat} {i:Nat}:Is3 (o3 x q tk i) (x.V q):=⟨fun j=>tk (i + j),tk (i + 3),rfl⟩
theorem is3_t {V:Nat->Int} {f:Nat->Nat} {n:Nat}:Is3 (oThree V f n) V:=⟨f,n,rfl⟩
noncomputable def g1V (st:Nat->Int) (q:Nat):Nat->Int:=match q with
 | 10=>times st st
 | 11=>trn st
 | 12=>times (times st st) (times st st)
 | 13=>times st (times (times st st) (times st st))
 | 15=>times st (trn st)
 | 16=>trn (trn st)
 | _=>nrm st
theorem grp1 (K:LawK kt) (C:CxL kt w N A s) (F:Fac f st) {bs:List Nat} {ps:List Obj} (S:LSt N s.heap ([pr,p1,p2,p3,p 4,p 7]++bs) ([fr8 w.params τ (kn p v) d,oCell none,oCell none,oCell none,oThree f tf nf,oThree st ts ns]++ps))
 (hR:∀ h' G' t' p' τ v pn tq tu tb tn nq nu nb nn,LSt N h' ([pr,p1,p2,p3,p' 4,p' 7,p' 8,p' 9,p' 10,pn]++bs) ([fr11 w.params τ (kn p' v) d,oCell (some (.ref pn)),oCell none,oCell none,oThree f tf nf,oThree st ts ns,oThree (times st st) tq nq,oThree (trn st) tu nu,oThree (times st (trn st)) tb nb,oThree (nrm st) tn nn]++ps)->CxL kt w N A ⟨h',G',s.drawn,t',s.os⟩->Wp kt w A Q E pr p1 p2 p3 13 ⟨h',G',s.drawn,t',s.os⟩) :
 Wp kt w A Q E pr p1 p2 p3 7 s:=by
 obtain ⟨n,hn,hg⟩:=F.grey
 let x:=lawX (g1V st) { Lt.zero with fl:=flN n } fun _=>[]
 refine grp_runL (x:=g1L x) (e:=e4 pr p1 p2 p3) 7 6 [pr,p1,p2,p3,p 4,p 7] _ C (List.nodup_append.mp S.nodup).1 (S.left rfl) (fun a ha=>S.off a (List.mem_append_left _ ha)) g1F (fun ad tk=>g1X w.params x ad tk τ (kn p v) d f st tf ts nf ns) (fun ad tk=>g1O x ad tk st ts ns) (fun r T m ad tk h=>okNext_some (congrArg Prod.fst h)) (fun f' tk'=>K.g1 w x (adJ [pr,p1,p2,p3,p 4,p 7] f') tk' τ (kn p v) d f st tf ts nf ns) ?_ ?_
 · intro f' tk' q hq
   have h0:nrm st 0=n:=hg 0 (by decide)
   have h1:nrm st 1=n:=hg 1 (by decide)
   have h2:nrm st 2=n:=hg 2 (by decide)
   unfold g1O at hq
   revert q
   refine all_cons ?_ ?_
   · rcases hn with rfl | rfl | rfl | rfl <;> exact ⟨by decide,by kernel_rfl⟩
   refine all_cons ?_ ?_
   · rcases hn with rfl | rfl | rfl | rfl <;> kernel_rfl
   refine all_cons ?_ ?_
   · rcases hn with rfl | rfl | rfl | rfl <;> kernel_rfl
   refine all_cons ?_ ?_
   · rcases hn with rfl | rfl | rfl | rfl <;> kernel_rfl
   refine all_cons ?_ ?_
   · rcases hn with rfl | rfl | rfl | rfl <;> exact ⟨by decide,by kernel_rfl⟩
   refine all_cons ?_ ?_
   · rcases hn with rfl | rfl | rfl | rfl <;> exact ⟨by decide,by kernel_rfl⟩
   refine all_cons ?_ ?_
   · rcases hn with rfl | rfl | rfl | rfl <;> exact ⟨by decide,by kernel_rfl⟩
   refine all_cons ?_ ?_
   · rcases hn with rfl | rfl | rfl | rfl <;> exact ⟨by decide,by kernel_rfl⟩
   refine all_cons ?_ ?_
   · show dOk (nrm st 2) 4 (flN n 20)=true
     rw [h2]
     rcases hn with rfl | rfl | rfl | rfl <;> kernel_rfl
   refine all_cons ?_ ?_
   · show dOk (nrm st 1) 4 (flN n 19)=true
     rw [h1]
     rcases hn with rfl | rfl | rfl | rfl <;> kernel_rfl
   refine all_cons ?_ ?_
   · show dOk (nrm st 0) 4 (flN n 18)=true
     rw [h0]
     rcases hn with rfl | rfl | rfl | rfl <;> kernel_rfl
   refine all_cons ?_ ?_
   · exact ⟨rfl,rfl,_,_,is3_o3,is3_o3,sm_times _ _,fun j _=>rfl⟩
   refine all_cons ?_ ?_
   · exact ⟨rfl,_,is3_o3,F.t2⟩
   refine all_cons ?_ ?_
   · exact ⟨rfl,rfl,_,_,is3_t,is3_o3,F.ss,fun j _=>rfl⟩
   refine all_cons ?_ ?_
   · exact seq3 fun j hj=>(F.five j hj).symm
   refine all_cons ?_ ?_
   · exact ⟨rfl,rfl,_,_,is3_t,is3_o3,F.ss,fun j _=>rfl⟩
   refine all_cons ?_ ?_
   · exact ⟨rfl,rfl,_,_,is3_o3,is3_o3,sm_times _ _,fun j _=>rfl⟩
   refine all_cons ?_ ?_
   · exact ⟨rfl,_,is3_t,F.t1⟩
   refine all_cons ?_ ?_
   · exact ⟨rfl,rfl,_,_,is3_t,is3_t,F.ss,fun j _=>rfl⟩
   exact all_nil
 · intro h' G' t' f' tk' r T' m' eF D C'
   unfold g1F g1X at eF
   simp only [Prod.mk.injEq] at eF
   obtain ⟨_,e0,e1,e2,e3,e4',e5,e6,e7,e10,e12⟩:=eF
   have S':=LSt.next S rfl D [0,1,2,3,4,5,6,7,10,12] (show _=List.map some [_,_,_,_,_,_,_,_,_,_] by
    simp only [List.map_cons,List.map_nil]
    rw [e0,e1,e2,e3,e4',e5,e6,e7,e10,e12]) (by decide)
   exact hR h' G' t' (fun i=>match i with | 8=>f' 6 | 9=>f' 7 | 10=>f' 10 | i=>p i) (fun i=>match i with | 8=>tk' 4 | 9=>tk' 9 | 10=>tk' 22 | i=>τ i) (fun i=>match i with | 8=>f' 6 | 9=>f' 7 | 10=>f' 10 | i=>kn p v i) (f' 12) (fun j=>tk' (0 + j)) (fun j=>tk' (5 + j)) (fun j=>tk' (18 + j)) (fun j=>tk' (27 + j)) (tk' 3) (tk' 8) (tk' 21) (tk' 30) S' C'
theorem ints_cases {vs:List Value} {l:List Int} (h:IntsAre vs l):vs=[]∨(∃ a ta,vs=[.int a ta])∨∃ a b ta tb rest,vs = .int a ta::.int b tb::rest:=by
 cases h with
 | nil=>exact .inl rfl
 | cons a ta h =>
  cases h with
  | nil=>exact .inr (.inl ⟨a,ta,rfl⟩)
  | cons b tb h=>exact .inr (.inr ⟨a,b,ta,tb,_,rfl⟩)
theorem app_ok {ad:Nat->Nat} {j k:Nat} (h:k<1000):opApp ad j k:=⟨rfl,by unfold sizeLine; exact om140 h⟩
theorem cut_ok {ad:Nat->Nat} {vs cut:List Value} {n t:Nat} (h:vs.length≤63) (hc:cut=vs.take 2):opCut ad vs n t cut:=⟨rfl,rfl,rfl,by unfold sizeLine; exact om141 h,⟨_,rfl⟩,hc⟩
theorem grp0 (K:LawK kt) (C:CxL kt w N A s) {pa:Nat} {vs:List Value} {l:List Int} {n:Nat} (hi:IntsAre vs l) (h63:vs.length≤63) (S:LSt N s.heap [pa,pr,p1,p2,p3] [oList vs n,fr1 w.params τ (fun _=>pa) (fun _=>0),oCell none,oCell none,oCell none])
 (hR:∀ h' G' t' p' τ v d d0 d1 tf ts nf ns,LSt N h' ([pr,p1,p2,p3,p' 4,p' 7]++[pa]) ([fr8 w.params τ (kn p' v) d,oCell none,oCell none,oCell none,oThree (fstO d0) tf nf,oThree (stpO d1) ts ns]++[oList vs n])->CxL kt w N A ⟨h',G',s.drawn,t',s.os⟩->Wp kt w A Q E pr p1 p2 p3 7 ⟨h',G',s.drawn,t',s.os⟩) :
 Wp kt w A Q E pr p1 p2 p3 0 s:=by
 have fin:∀ (f' tk':Nat->Nat) (h':Heap) (G':Array GenState) (t':Nat) (r:Result) (T':BT) (m' b:Nat) (d0 d1:Int),g0F r T' m'=g0X w.params (adJ [pa,pr,p1,p2,p3] f') tk' τ (fun _=>0) b d0 d1 vs n->Rep2 (kt w.params) N (Cas G') (adJ [pa,pr,p1,p2,p3] f') s.heap [pa,pr,p1,p2,p3].length h' T' m'->CxL kt w N A ⟨h',G',s.drawn,t',s.os⟩->Wp kt w A Q E pr p1 p2 p3 7 ⟨h',G',s.drawn,t',s.os⟩:=by
  intro f' tk' h' G' t' r T' m' b d0 d1 eF D C'
  unfold g0F g0X at eF
  simp only [Prod.mk.injEq] at eF
  obtain ⟨_,e0,e1,e2,e3,e4',e16,e17⟩:=eF
  have S':=LSt.next (bs:=[]) (ps:=[]) (by simpa using S) rfl D [1,2,3,4,16,17,0] (show _=List.map some [_,_,_,_,_,_,_] by
   simp only [List.map_cons,List.map_nil]
   rw [e1,e2,e3,e4',e16,e17,e0]) (by decide)
  rw [List.append_nil,List.append_nil] at S'
  exact hR h' G' t' (fun i=>match i with | 4=>f' 16 | 7=>f' 17 | i=>0) (fun i=>match i with | 0=>τ 0 | 1=>tk' (b + 5) | 2=>tk' (b + 10) | 3=>tk' (b + 16) | 4=>tk' (b + 25) | 5=>tk' (b + 31) | 6=>tk' (b + 37) | _=>tk' (b + 48)) (fun i=>match i with | 0=>pa | 1=>f' 8 | 2=>f' 15 | 3=>tk' (b + 15) | 4=>f' 16 | 5=>tk' (b + 30) | 6=>tk' (b + 36) | _=>f' 17) (fun i=>match i with | 3=>numO d0 | 5=>aboO d1 | _=>leaO d1) d0 d1 (at3 (tk' (b + 18)) (tk' (b + 22)) (tk' (b + 24))) (at3 (tk' (b + 36)) (tk' (b + 42)) (tk' (b + 47))) 0 0 S' C'
 rcases ints_cases hi with rfl | ⟨a,ta,rfl⟩ | ⟨a,b,ta,tb,rest,rfl⟩
 · refine grp_runL (x:=g0L0 LL.zero []) (e:=e4 pr p1 p2 p3) 0 7 _ _ C S.nodup S.objs S.off g0F (fun ad tk=>g0X w.params ad tk τ (fun _=>0) 0 30 47 [] n) (fun ad tk=>[opCut ad [] n (tk 0) []]) (fun r T m ad tk h=>okNext_some (congrArg Prod.fst h)) (fun f' tk'=>K.g00 w LL.zero (adJ [pa,pr,p1,p2,p3] f') tk' τ (fun _=>0) n) (fun f' tk' q hq=>?_) (fun h' G' t' f' tk' r T' m'=>fin f' tk' h' G' t' r T' m' 0 30 47)
   revert q
   refine all_cons ?_ ?_
   · exact cut_ok h63 rfl
   exact all_nil
 · refine grp_runL (x:=g0L1 LL.zero [.int a ta]) (e:=e4 pr p1 p2 p3) 0 7 _ _ C S.nodup S.objs S.off g0F (fun ad tk=>g0X w.params ad tk τ (fun _=>0) 5 (a.fmod 1000000) 47 [.int a ta] n) (fun ad tk=>[opApp ad 8 0,opCut ad [.int a ta] n (tk 0) [.int a ta]]) (fun r T m ad tk h=>okNext_some (congrArg Prod.fst h)) (fun f' tk'=>K.g01 w LL.zero (adJ [pa,pr,p1,p2,p3] f') tk' τ (fun _=>0) n a ta) (fun f' tk' q hq=>?_) (fun h' G' t' f' tk' r T' m'=>fin f' tk' h' G' t' r T' m' 5 (a.fmod 1000000) 47)
   revert q
   refine all_cons ?_ ?_
   · exact app_ok (by decide)
   refine all_cons ?_ ?_
   · exact cut_ok h63 rfl
   exact all_nil
 · refine grp_runL (x:=g0L2 LL.zero [.int a ta,.int b tb]) (e:=e4 pr p1 p2 p3) 0 7 _ _ C S.nodup S.objs S.off g0F (fun ad tk=>g0X w.params ad tk τ (fun _=>0) 10 (a.fmod 1000000) (b.fmod 1000000) (.int a ta::.int b tb::rest) n) (fun ad tk=>[opApp ad 8 1,opApp ad 8 0,opCut ad (.int a ta::.int b tb::rest) n (tk 0) [.int a ta,.int b tb]]) (fun r T m ad tk h=>okNext_some (congrArg Prod.fst h)) (fun f' tk'=>K.g02 w LL.zero (adJ [pa,pr,p1,p2,p3] f') tk' τ (fun _=>0) n a b ta tb rest) (fun f' tk' q hq=>?_) (fun h' G' t' f' tk' r T' m'=>fin f' tk' h' G' t' r T' m' 10 (a.fmod 1000000) (b.fmod 1000000))
   revert q
   refine all_cons ?_ ?_
   · exact app_ok (by decide)
   refine all_cons ?_ ?_
   · exact app_ok (by decide)
   refine all_cons ?_ ?_
   · exact cut_ok h63 rfl
   exact all_nil
end
end
section
variable [Bs]
section
variable {kt:Params->KT} {w:World} {A:Around} {s:Shared} {N:Nat} {Q:Flow->Shared->Prop} {E:Value->Shared->Prop} {pr p1 p2 p3:Nat} {p τ v:Nat->Nat} {d:Nat->Int} {f st:Nat->Int} {tf ts:Nat->Nat} {nf ns:Nat}
theorem CxL.keeps {s':Shared} (C:CxL kt w N A s) (k:Keeps s.heap s'.heap) (hg:s'.gens=s.gens) {a:Nat} {o:Obj} (ha:N≤a) (ho:s.heap.get? a=some o):CxL kt w N A s' :=
 ⟨C.ks,C.top,C.hA,C.hd,C.hu,KT.Holds.keeps k C.base,Nat.le_of_lt (Nat.lt_of_le_of_lt ha (Heap.lt_size (k _ _ ho))),hg ▸ Cas_stb C.top _ _ _ (fun b o _ e=>k b o e) C.inv⟩
theorem xs3_are (V:Nat->Int) (g:Nat->Nat):IntsAre (xs3 V g) [V 0,V 1,V 2]:=.cons _ _ (.cons _ _ (.cons _ _ .nil))
theorem k7_self {a0 a1 a2 a3 a4 a5 a6:Nat} {g h:Nat->Nat}:k7 (adJ [a0,a1,a2,a3,a4,a5,a6] g) (adJ [a0,a1,a2,a3,a4,a5,a6] h)=adJ [a0,a1,a2,a3,a4,a5,a6] h:=by
 funext j
 match j with
 | 0 | 1 | 2 | 3 | 4 | 5 | 6=>rfl
 | n + 7=>rfl
theorem grpR (K:LawK kt) (C:CxL kt w N A s) {pn:Nat} {nn bb:Nat->Int} {tn tb:Nat->Nat} {n1 n2 n3:Nat} {bs:List Nat} {ps:List Obj} (S:LSt N s.heap ([pr,p1,p2,p3,pn,p 10,p 7]++bs) ([fr11 w.params τ (kn p v) d,oCell (some (.ref pn)),oCell none,oCell none,oThree nn tn n1,oThree bb tb n2,oThree st ts n3]++ps))
 (hR:∀ h' G' t' p' τ v tr nr,(∀ i,i ≠ 11->p' i=p i)->LSt N h' ([pr,p1,p2,p3,pn,p 10,p 7,p' 11]++bs) ([fr12 w.params τ (kn p' v) d,oCell (some (.ref pn)),oCell none,oCell none,oThree nn tn n1,oThree bb tb n2,oThree st ts n3,oThree (v3 (nn 0) (-[bb 0,bb 1,bb 2].sum) [st 0,st 1,st 2].sum) tr nr]++ps)->CxL kt w N A ⟨h',G',s.drawn,t',s.os⟩->Wp kt w A Q E pr p1 p2 p3 14 ⟨h',G',s.drawn,t',s.os⟩) :
 Wp kt w A Q E pr p1 p2 p3 13 s:=by
 let as:=[pr,p1,p2,p3,pn,p 10,p 7]
 let l:=[fr11 w.params τ (kn p v) d,oCell (some (.ref pn)),oCell none,oCell none,oThree nn tn n1,oThree bb tb n2,oThree st ts n3]
 let y:(Nat->Nat)->RuS:=fun tk=>⟨tk,τ,kn p v,d,nn,bb,st,tn,tb,ts,n1,n2,n3⟩
 have nod:∀ {h:Heap},LSt N h (as++bs) (l++ps)->as.Nodup:=fun S=>(List.nodup_append.mp S.nodup).1
 have offs:∀ {h:Heap},LSt N h (as++bs) (l++ps)->∀ a∈as,N≤a:=fun S a ha=>S.off a (List.mem_append_left _ ha)
 refine grp_stq (x:=LL.zero) (e:=e4 pr p1 p2 p3) 13 1 as l C (nod S) (S.left rfl) (offs S) gaS (fun ad _=>(0,some ("sum",ad 5),lt7 l)) (fun _ _=>[]) (fun ad tk=>gaY (kt w.params) w ad (y tk)) (fun _ _=>rfl) (fun f' tk'=>K.ga w (adJ as f') (y tk')) (fun _ _ q hq=>by cases hq) ?_
 intro h1 G1 t1 f1 tk1 c1 T1 m1 eF D C1 k1 k2 k3 k4
 unfold gaS lt7 at eF
 simp only [Prod.mk.injEq] at eF
 obtain ⟨ed,ec,e0,e1,e2,e3,e4',e5,e6⟩:=eF
 have S1:=LSt.next S rfl D [0,1,2,3,4,5,6] (show _=List.map some l by
  simp only [List.map_cons,List.map_nil]
  rw [e0,e1,e2,e3,e4',e5,e6]
  rfl) (by decide)
 have S1:LSt N h1 (as++bs) (l++ps):=S1
 rw [sm_eq ec]
 have hA1:∀ κ,(arK A κ).handled=none:=fun κ=>(arK_handled A κ).trans C.hA
 refine sumL_c (vs:=xs3 bb tb) (n:=n2) (hA1 _) (at_map (S1.left rfl) (i:=5) (show 5<7 by decide)) (xs3_are bb tb) ?_
 intro h2 t2 tσ kp2
 let g:=adJ as f1
 have S2:LSt N h2 (as++bs) (l++ps):=S1.keeps fun b o _ e=>kp2 b o e
 have C2:CxL kt w N A ⟨h2,G1,s.drawn,t2,s.os⟩:=C1.keeps kp2 rfl (a:=pr) (S1.off _ (List.mem_cons_self ..)) (at_map (S1.left rfl) (i:=0) (show 0<7 by decide))
 have hlen:(gaY (kt w.params) w g (y tk1)).sκ.len=0:=by
  have:(gaY (kt w.params) w g (y tk1)).sd=0:=ed
  have k3:(gaY (kt w.params) w g (y tk1)).sκ.len≤(gaY (kt w.params) w g (y tk1)).sd:=k3
  exact om142 this k3
 refine seg2_stq (n:=25) (o:=oGb) (E:=mkL LL.zero (kt w.params) w) (I:=Cas) as l C2.cx2 (nod S2) (S2.left rfl) (offs S2) k1 k2 k3 (by show (gaY (kt w.params) w g (y tk1)).sκ.len≤13; exact om143 hlen) gaS (fun ad _=>(0,some ("sum",ad 6),lt7 l)) (fun _ _=>[]) (fun ad tk=>gbY (kt w.params) w ad tk g (y tk1) [bb 0,bb 1,bb 2].sum tσ) (fun f2 tk2=>by
  show gbY (kt w.params) w (adJ as f2) tk2 g (y tk1) _ tσ=_
  unfold gbY tvR
  rw [show k7 (adJ as f2) g=g from k7_self]
  rfl) (fun f' tk'=>K.gb w (adJ as f') tk' g (y tk1) _ tσ) (fun _ _ q hq=>by cases hq) ?_
 intro h3 G3 t3 f3 tk3 c3 T3 m3 eF D3 q1 q2 q3 q4
 unfold gaS lt7 at eF
 simp only [Prod.mk.injEq] at eF
 obtain ⟨ed3,ec3,e0,e1,e2,e3,e4',e5,e6⟩:=eF
 have S3:=LSt.next S2 rfl D3 [0,1,2,3,4,5,6] (show _=List.map some l by
  simp only [List.map_cons,List.map_nil]
  rw [e0,e1,e2,e3,e4',e5,e6]
  rfl) (by decide)
 have S3:LSt N h3 (as++bs) (l++ps):=S3
 have C3:CxL kt w N A ⟨h3,G3,s.drawn,t3,s.os⟩:=C2.to D3.base D3.inv D3.size
 rw [sm_eq ec3]
 refine sumL_c (vs:=xs3 st ts) (n:=n3) (hA1 _) (at_map (S3.left rfl) (i:=6) (show 6<7 by decide)) (xs3_are st ts) ?_
 intro h4 t4 tρ kp4
 have S4:LSt N h4 (as++bs) (l++ps):=S3.keeps fun b o _ e=>kp4 b o e
 have C4:CxL kt w N A ⟨h4,G3,s.drawn,t4,s.os⟩:=C3.keeps kp4 rfl (a:=pr) (S3.off _ (List.mem_cons_self ..)) (at_map (S3.left rfl) (i:=0) (show 0<7 by decide))
 let g3:=adJ as f3
 have hlen3:(gbY (kt w.params) w g3 tk3 g (y tk1) [bb 0,bb 1,bb 2].sum tσ).sκ.len=0:=by
  have a1:(gbY (kt w.params) w g3 tk3 g (y tk1) [bb 0,bb 1,bb 2].sum tσ).sd=0:=ed3
  have a2:(gbY (kt w.params) w g3 tk3 g (y tk1) [bb 0,bb 1,bb 2].sum tσ).sκ.len≤(gbY (kt w.params) w g3 tk3 g (y tk1) [bb 0,bb 1,bb 2].sum tσ).sd:=q3
  exact om142 a1 a2
 refine seg2_dn (n:=25) (o:=oGc) (E:=mkL LL.zero (kt w.params) w) (I:=Cas) as l C4.cx2 (nod S4) (S4.left rfl) (offs S4) q1 q2 q3 (by show (gbY (kt w.params) w g3 tk3 g (y tk1) [bb 0,bb 1,bb 2].sum tσ).sκ.len≤13; exact om143 hlen3) gcF (fun ad tk=>gcZ w.params ad tk tk3 (y tk1) [bb 0,bb 1,bb 2].sum [st 0,st 1,st 2].sum tρ) (fun _ _=>[]) (fun f4 tk4=>?_) (fun _ _ q hq=>by cases hq) ?_
 · have k:=K.gc w (adJ as f4) tk4 g3 tk3 g (y tk1) [bb 0,bb 1,bb 2].sum tσ [st 0,st 1,st 2].sum tρ
   unfold gcY tvR at k
   rw [show k7 (adJ as f4) g3=g3 from k7_self] at k
   exact k
 · intro h5 G5 t5 f5 tk5 r5 T5 m5 eF D5
   unfold gcF gcZ at eF
   simp only [Prod.mk.injEq] at eF
   obtain ⟨er,e7,e0,e1,e2,e3,e4',e5,e6⟩:=eF
   obtain rfl:=okNext_some er
   have S5:=LSt.next S4 rfl D5 [0,1,2,3,4,5,6,7] (show _=List.map some [_,_,_,_,_,_,_,_] by
    simp only [List.map_cons,List.map_nil]
    rw [e0,e1,e2,e3,e4',e5,e6,e7]) (by decide)
   have C5:CxL kt w N A ⟨h5,G5,s.drawn,t5,s.os⟩:=C4.to D5.base D5.inv D5.size
   exact hR h5 G5 t5 (fun i=>match i with | 11=>f5 7 | i=>p i) (fun i=>match i with | 11=>tk5 0 | i=>τ i) (fun i=>match i with | 11=>f5 7 | i=>kn p v i) (at3 (tn 0) (tk3 0) tρ) 0 (fun i hi=>by
    split
    · exact absurd rfl hi
    · rfl) S5 C5
end
end
section
variable [Bs]
theorem intsT_at:∀ (l:List Int) (f:Nat->Nat) (j:Nat),j<l.length->(intsT l f).getD j .none = .int (l.getD j 0) (f j)
 | _::_,_,0,_=>rfl
 | a::l,f,j + 1,h=>by
  show (intsT l fun j=>f (j + 1)).getD j .none = .int (l.getD j 0) (f (j + 1))
  exact intsT_at l _ j (Nat.lt_of_succ_lt_succ h)
theorem intsT_len:∀ (l:List Int) (f:Nat->Nat),(intsT l f).length=l.length
 | [],_=>rfl
 | a::l,f=>congrArg (· + 1) (intsT_len l _)
theorem seq_all {l:List Int} {f g:Nat->Nat}:((List.range (intsT l f).length).all fun j=>(vEq ((intsT l f).getD j .none) ((intsT l g).getD j .none)).getD false)=true:=by
 rw [List.all_eq_true]
 intro j hj
 rw [List.mem_range,intsT_len] at hj
 rw [intsT_at l f j hj,intsT_at l g j hj]
 show (some (l.getD j 0 == l.getD j 0)).getD false=true
 simp
theorem seqI_some2 {l:List Int} {f g:Nat->Nat}:∀ j,j<(intsT l f).length->(vEq ((intsT l f).getD j .none) ((intsT l g).getD j .none)).isSome=true:=fun j hj=>by
 rw [intsT_len] at hj
 rw [intsT_at l f j hj,intsT_at l g j hj]
 rfl
theorem seqNe {ad:Nat->Nat} {a b:Nat} {l:List Int} {f g:Nat->Nat}:opSeq ad a b 1 (intsT l f) (intsT l g) false :=
 ⟨rfl,rfl,rfl,rfl,by rw [intsT_len,intsT_len],seqI_some2,by
  show (!_)=false
  rw [seq_all]
  rfl⟩
theorem seqEq {ad:Nat->Nat} {a b:Nat} {l:List Int} {f g:Nat->Nat}:opSeq ad a b 2 (intsT l f) (intsT l g) true :=
 ⟨rfl,rfl,rfl,rfl,by rw [intsT_len,intsT_len],seqI_some2,seq_all⟩
theorem idx_of {n k:Nat} {i:Int} (h:k<n) (hi:i=(k:Int)∨(i<0∧i + (n:Int)=(k:Int))):seqIndex? i n=some k:=by
 unfold seqIndex?
 have e:(if i<0 then i + (n:Int) else i)=(k:Int):=by
  split <;> omega
 rw [e]
 have c:(decide (0≤(k:Int)) && decide ((k:Int)<(n:Int)))=true:=by
  rw [Bool.and_eq_true]
  exact ⟨decide_eq_true (by exact om153),decide_eq_true (by exact om154 h)⟩
 show (if (decide (0≤(k:Int)) && decide ((k:Int)<(n:Int)))=true then some (k:Int).toNat else none)=some k
 rw [if_pos c]
 rfl
theorem sOk_of {l:List Int} {k:Nat} {i d:Int} (hd:l[k]? = some d) (hl:l.length<1000) (hi:i=(k:Int)∨(i<0∧i + (l.length:Int)=(k:Int))):sOk (tx l) i (tx [d]):=by
 have h:k<l.length:=(List.getElem?_eq_some_iff.mp hd).1
 refine ⟨?_,sg d,?_,rfl⟩
 · rw [Bool.or_eq_false_iff]
   exact ⟨decide_eq_false (by exact om155 hl hi),decide_eq_false (by exact om156 hl hi h)⟩
 · rw [tx_len,idx_of h hi]
   show ((l.map sg).toArray)[k]? = some (sg d)
   simp [hd]
theorem sOk_last {l:List Int} {d:Int} (h:l.getLast? = some d) (hl:l.length<1000):sOk (tx l) (-1) (tx [d]):=by
 have hn:0<l.length:=by
  cases l with
  | nil=>cases h
  | cons _ _=>exact Nat.succ_pos _
 refine sOk_of (k:=l.length - 1) ?_ hl (.inr ⟨by decide,by exact om157 hn⟩)
 rw [← h,List.getLast?_eq_getElem?]
section
variable {kt:Params->KT} {w:World} {A:Around} {s:Shared} {N:Nat} {Q:Flow->Shared->Prop} {E:Value->Shared->Prop} {pr p1 p2 p3:Nat} {p τ v:Nat->Nat} {d:Nat->Int} {f st:Nat->Int} {tf ts:Nat->Nat} {nf ns:Nat}
theorem LSt.nodL {h:Heap} {as bs:List Nat} {os ps:List Obj} (S:LSt N h (as++bs) (os++ps)):as.Nodup:=(List.nodup_append.mp S.nodup).1
theorem LSt.offL {h:Heap} {as bs:List Nat} {os ps:List Obj} (S:LSt N h (as++bs) (os++ps)):∀ a∈as,N≤a:=fun a ha=>S.off a (List.mem_append_left _ ha)
noncomputable def tdF (f st:Nat->Int):List Int:=(tell (ruF st) 31 [] (bgF f st)).1
noncomputable def toF (f st:Nat->Int):List Int:=(tell (ruF st) 31 [] (otF f st)).1
theorem sm_plu (a:Nat->Int):0≤plumaV a∧plumaV a<5:=fmod5 _
theorem sm_bg (f st:Nat->Int):Sm (bgF f st):=sm_v3 (sm_plu _) (sm_plu _) (sm_plu _)
theorem sm_ot (f st:Nat->Int):Sm (otF f st):=sm_v3 (sm_plu _) (sm_plu _) (sm_plu _)
noncomputable def gdV (f st:Nat->Int) (q:Nat):Nat->Int:=match q with
 | 10=>fun _=>plumaV f
 | 11=>times f st
 | 12=>fun _=>plumaV (times f st)
 | 13=>times f (times st st)
 | 14=>fun _=>plumaV (times f (times st st))
 | _=>(tell (ruF st) 31 [] (bgF f st)).2
theorem grpD (K:LawK kt) (C:CxL kt w N A s) (F:Fac f st) {pn:Nat} {tn tq tr:Nat->Nat} {nn nq nr:Nat} {bs:List Nat} {ps:List Obj} (S:LSt N s.heap ([pr,p1,p2,p3,pn,p 4,p 7,p 8,p 11]++bs) ([fr12 w.params τ (kn p v) d,oCell (some (.ref pn)),oCell none,oCell none,oThree (nrm st) tn nn,oThree f tf nf,oThree st ts ns,oThree (times st st) tq nq,oThree (ruF st) tr nr]++ps))
 (hR:∀ h' G' t' τ v tt,LSt N h' ([pr,p1,p2,p3,p 4,p 11]++bs) ([fr14 w.params τ (kn p v) d,oCell (some (.ref pn)),oCell (some (.str (tx (tdF f st)) tt)),oCell none,oThree f tf nf,oThree (ruF st) tr nr]++ps)->CxL kt w N A ⟨h',G',s.drawn,t',s.os⟩->Wp kt w A Q E pr p1 p2 p3 17 ⟨h',G',s.drawn,t',s.os⟩) :
 Wp kt w A Q E pr p1 p2 p3 14 s:=by
 let x:=lawX (gdV f st) Lt.zero fun _=>tdF f st
 let as:=[pr,p1,p2,p3,pn,p 4,p 7,p 8,p 11]
 refine grp_runL (x:=gdL x) (e:=e4 pr p1 p2 p3) 14 3 as _ C S.nodL (S.left rfl) S.offL gdF (fun ad tk=>gdX w.params x ad tk τ (kn p v) d (nrm st) f (ruF st) tn tf tr nn nf nr) (fun ad tk=>gdO x ad tk (nrm st) f st (times st st) (ruF st) tf ts tq tr nf ns nq nr) (fun r T m ad tk h=>okNext_some (congrArg Prod.fst h)) (fun f' tk'=>K.gd w x (adJ as f') tk' τ (kn p v) d (nrm st) f st (times st st) (ruF st) tn tf ts tq tr nn nf ns nq nr) ?_ ?_
 · intro f' tk' q hq
   have n0:-100000<nrm st 0∧nrm st 0<100000:=by
    have:0≤nrm st 0∧nrm st 0<5:=sm_times _ _ 0
    exact om158 this
   unfold gdO at hq
   revert q
   refine all_cons ?_ ?_
   · refine seq3 fun j hj=>?_
     have:=F.endd j hj
     match j,hj with
     | 0,_ | 1,_ | 2,_=>exact this
   refine all_cons ?_ ?_
   · exact app_ok (by decide)
   refine all_cons ?_ ?_
   · exact mulOk n0.1 n0.2
   refine all_cons ?_ ?_
   · exact app_ok (by decide)
   refine all_cons ?_ ?_
   · exact mulOk n0.1 n0.2
   refine all_cons ?_ ?_
   · exact app_ok (by decide)
   refine all_cons ?_ ?_
   · exact mulOk n0.1 n0.2
   refine all_cons ?_ ?_
   · exact ⟨rfl,rfl,by decide,bgF f st,ruF st,is3_t,is3_t,sm_bg _ _,F.rs,rfl,fun j _=>rfl⟩
   refine all_cons ?_ ?_
   · exact ⟨rfl,_,is3_o3,F.lum2⟩
   refine all_cons ?_ ?_
   · exact ⟨rfl,rfl,_,_,is3_t,is3_t,F.sf,fun j _=>rfl⟩
   refine all_cons ?_ ?_
   · exact ⟨rfl,_,is3_o3,F.lum1⟩
   refine all_cons ?_ ?_
   · exact ⟨rfl,rfl,_,_,is3_t,is3_t,F.sf,fun j _=>rfl⟩
   refine all_cons ?_ ?_
   · exact ⟨rfl,_,is3_t,F.lum0⟩
   exact all_nil
 · intro h' G' t' f' tk' r T' m' eF D C'
   unfold gdF gdX at eF
   simp only [Prod.mk.injEq] at eF
   obtain ⟨_,e0,e1,e2,e3,e4',e5,e8⟩:=eF
   have S':=LSt.next S rfl D [0,1,2,3,5,8] (show _=List.map some [_,_,_,_,_,_] by
    simp only [List.map_cons,List.map_nil]
    rw [e0,e1,e2,e3,e5,e8]) (by decide)
   exact hR h' G' t' (fun i=>match i with | 12=>tk' 20 | 13=>tk' 25 | i=>τ i) (fun i=>match i with | 12=>f' 11 | 13=>f' 13 | i=>kn p v i) (tk' 21) S' C'
theorem tx1_ne {d:Int} (h0:0<d) (h5:d<5):((tx [d]).cps.toList == [60])=false:=by
 have:d=1∨d=2∨d=3∨d=4:=by exact om159 h0 h5
 rcases this with rfl | rfl | rfl | rfl <;> rfl
noncomputable def g2Lx (z:Str):LL:=lawX (fun _ _=>0) { Lt.zero with sl:=fun _=>z } fun _=>one30
theorem tell_len (r:Nat->Int):∀ (m:Nat) (t:List Int) (c:Nat->Int),(tell r m t c).1.length=t.length + m
 | 0,_,_=>rfl
 | m + 1,t,c=>by
  unfold tell
  rw [tell_len r m]
  simp
  exact om37
theorem tell_all (r:Nat->Int):∀ (m:Nat) (t:List Int) (c:Nat->Int),Sm c->(∀ d∈t,0≤d∧d<5)->∀ d∈(tell r m t c).1,0≤d∧d<5
 | 0,_,_,_,h=>h
 | m + 1,t,c,hc,h=>by
  unfold tell
  refine tell_all r m _ _ (nx_sm hc) fun d hd=>?_
  rcases List.mem_append.mp hd with hd | hd
  · exact h d hd
  · rw [List.mem_singleton.mp hd]
    exact hc 0
theorem td_len (f st:Nat->Int):(tdF f st).length=31:=(tell_len _ 31 [] _).trans rfl
theorem to_len (f st:Nat->Int):(toF f st).length=31:=(tell_len _ 31 [] _).trans rfl
theorem td_all (f st:Nat->Int):∀ d∈tdF f st,0≤d∧d<5:=tell_all _ 31 [] _ (sm_bg f st) fun d hd=>by cases hd
theorem to_all (f st:Nat->Int):∀ d∈toF f st,0≤d∧d<5:=tell_all _ 31 [] _ (sm_ot f st) fun d hd=>by cases hd
theorem len_small {l:List Int} (h:l.length<100):(tx l).length<1000:=by rw [tx_len]; exact om160 h
theorem ofNat_tx (l:List Int):Int.ofNat (tx l).length=Int.ofNat l.length:=by rw [tx_len]
noncomputable def rw7 (r0 r1 r2 r3 r4 r5 r6:List Int) (i:Nat):Str:=match i with
 | 0=>tx r0 | 1=>tx r1 | 2=>tx r2 | 3=>tx r3 | 4=>tx r4 | 5=>tx r5 | _=>tx r6
theorem grp2 (K:LawK kt) (C:CxL kt w N A s) (F:Fac f st) {c1 tt:Nat} {bs:List Nat} {ps:List Obj} (S:LSt N s.heap ([pr,p1,p2,p3]++bs) ([fr14 w.params τ (kn p v) d,oCell (some (.ref c1)),oCell (some (.str (tx (tdF f st)) tt)),oCell none]++ps))
 (hR:∀ h' G' t' τ v,LSt N h' ([pr,p1,p2,p3]++bs) ([fr17 w.params τ (kn p v) d,oCell (some (.ref c1)),oCell (some (.str (tx (tdF f st)) tt)),oCell none]++ps)->CxL kt w N A ⟨h',G',s.drawn,t',s.os⟩->Wp kt w A Q E pr p1 p2 p3 21 ⟨h',G',s.drawn,t',s.os⟩) :
 Wp kt w A Q E pr p1 p2 p3 17 s:=by
 let as:=[pr,p1,p2,p3]
 have fin:∀ (f' tk':Nat->Nat) (h':Heap) (G':Array GenState) (t':Nat) (T':BT) (m':Nat) (τ' v':Nat->Nat),T'.get 0=some (fr17 w.params τ' (fun i=>match i with | 14=>v' 14 | 15=>v' 15 | 16=>v' 16 | i=>kn p v i) d)->T'.get 1=some (oCell (some (.ref c1)))->T'.get 2=some (oCell (some (.str (tx (tdF f st)) tt)))->T'.get 3=some (oCell none)->Rep2 (kt w.params) N (Cas G') (adJ as f') s.heap as.length h' T' m'->CxL kt w N A ⟨h',G',s.drawn,t',s.os⟩->Wp kt w A Q E pr p1 p2 p3 21 ⟨h',G',s.drawn,t',s.os⟩:=by
  intro f' tk' h' G' t' T' m' τ' v' e0 e1 e2 e3 D C'
  have S':=LSt.next S rfl D [0,1,2,3] (show _=List.map some [_,_,_,_] by
   simp only [List.map_cons,List.map_nil]
   rw [e0,e1,e2,e3]) (by decide)
  exact hR h' G' t' τ' (fun i=>match i with | 14=>v' 14 | 15=>v' 15 | 16=>v' 16 | i=>kn p v i) S' C'
 rcases F.page with ⟨r0,r1,r2,r3,r4,r5,r6,hrows,⟨dl,hlast,hd0,hd5⟩,⟨l0,l1,l2,l3',l4,l5,l6⟩,hw⟩ | ⟨r0,r1,r2,r3,r4,r5,hrows,hlast,⟨l0,l1,l2,l3',l4,l5⟩,hw⟩
 · let x:=g2Lx (tx [dl])
   let r:=rw7 r0 r1 r2 r3 r4 r5 r6
   refine grp_runL (x:=g2L7 x r) (e:=e4 pr p1 p2 p3) 17 4 as _ C S.nodL (S.left rfl) S.offL g4F (fun ad tk=>g2X7 w.params ad tk τ (kn p v) d c1 (tx (tdF f st)) tt) (fun ad tk=>g2O7 x r ad tk (tx (tdF f st))) (fun r T m ad tk h=>okNext_some (congrArg Prod.fst h)) (fun f' tk'=>K.g27 w x r (adJ as f') tk' τ (kn p v) d c1 (tx (tdF f st)) tt) ?_ ?_
   · intro f' tk' q hq
     unfold g2O7 at hq
     revert q
     refine all_cons ?_ ?_
     · exact seqNe (l:=one30)
     refine all_cons ?_ ?_
     · exact ⟨rfl,rfl,by decide⟩
     refine all_cons ?_ ?_
     · trivial
     refine all_cons ?_ ?_
     · refine ⟨rfl,rfl,[_,_,_,_,_,_],.cons _ _ (.cons _ _ (.cons _ _ (.cons _ _ (.cons _ _ (.cons _ _ .nil))))),rfl,?_⟩
       show one30=sortI (waysOf [Int.ofNat (tx r0).length + Int.ofNat (tx r6).length,Int.ofNat (tx r1).length,Int.ofNat (tx r2).length,Int.ofNat (tx r3).length,Int.ofNat (tx r4).length,Int.ofNat (tx r5).length])
       rw [ofNat_tx,ofNat_tx,ofNat_tx,ofNat_tx,ofNat_tx,ofNat_tx,ofNat_tx]
       exact hw.symm
     refine all_cons ?_ ?_
     · exact tx1_ne hd0 hd5
     refine all_cons ?_ ?_
     · exact sOk_last hlast (by exact om160 l6)
     refine all_cons ?_ ?_
     · exact app_ok (by decide)
     refine all_cons ?_ ?_
     · exact len_small l6
     refine all_cons ?_ ?_
     · exact app_ok (by decide)
     refine all_cons ?_ ?_
     · exact len_small l5
     refine all_cons ?_ ?_
     · exact app_ok (by decide)
     refine all_cons ?_ ?_
     · exact len_small l4
     refine all_cons ?_ ?_
     · exact app_ok (by decide)
     refine all_cons ?_ ?_
     · exact len_small l3'
     refine all_cons ?_ ?_
     · exact app_ok (by decide)
     refine all_cons ?_ ?_
     · exact len_small l2
     refine all_cons ?_ ?_
     · exact app_ok (by decide)
     refine all_cons ?_ ?_
     · exact len_small l1
     refine all_cons ?_ ?_
     · exact app_ok (by decide)
     refine all_cons ?_ ?_
     · exact len_small l0
     refine all_cons ?_ ?_
     · refine ⟨tdF f st,rfl,td_len _ _,td_all _ _,?_⟩
       show _=(rowsOf (tell (ruF st) 31 [] (bgF f st)).1).map tx
       rw [hrows]
       rfl
     exact all_nil
   · intro h' G' t' f' tk' r T' m' eF D C'
     unfold g4F g2X7 at eF
     simp only [Prod.mk.injEq] at eF
     obtain ⟨_,e0,e1,e2,e3⟩:=eF
     exact fin f' tk' h' G' t' T' m' _ (fun i=>match i with | 14=>f' 4 | 15=>f' 6 | _=>f' 13) e0 e1 e2 e3 D C'
 · let x:=g2Lx (tx [0])
   let r:=rw7 r0 r1 r2 r3 r4 r5 []
   refine grp_runL (x:=g2L6 x r) (e:=e4 pr p1 p2 p3) 17 4 as _ C S.nodL (S.left rfl) S.offL g4F (fun ad tk=>g2X6 w.params ad tk τ (kn p v) d c1 (tx (tdF f st)) tt) (fun ad tk=>g2O6 x r ad tk (tx (tdF f st))) (fun r T m ad tk h=>okNext_some (congrArg Prod.fst h)) (fun f' tk'=>K.g26 w x r (adJ as f') tk' τ (kn p v) d c1 (tx (tdF f st)) tt) ?_ ?_
   · intro f' tk' q hq
     unfold g2O6 at hq
     revert q
     refine all_cons ?_ ?_
     · exact seqNe (l:=one30)
     refine all_cons ?_ ?_
     · exact ⟨rfl,rfl,by decide⟩
     refine all_cons ?_ ?_
     · trivial
     refine all_cons ?_ ?_
     · refine ⟨rfl,rfl,[_,_,_,_,_,_],.cons _ _ (.cons _ _ (.cons _ _ (.cons _ _ (.cons _ _ (.cons _ _ .nil))))),rfl,?_⟩
       show one30=sortI (waysOf [Int.ofNat (tx r0).length,Int.ofNat (tx r1).length,Int.ofNat (tx r2).length,Int.ofNat (tx r3).length,Int.ofNat (tx r4).length,Int.ofNat (tx r5).length])
       rw [ofNat_tx,ofNat_tx,ofNat_tx,ofNat_tx,ofNat_tx,ofNat_tx]
       exact hw.symm
     refine all_cons ?_ ?_
     · rfl
     refine all_cons ?_ ?_
     · exact sOk_last hlast (by exact om160 l5)
     refine all_cons ?_ ?_
     · exact app_ok (by decide)
     refine all_cons ?_ ?_
     · exact len_small l5
     refine all_cons ?_ ?_
     · exact app_ok (by decide)
     refine all_cons ?_ ?_
     · exact len_small l4
     refine all_cons ?_ ?_
     · exact app_ok (by decide)
     refine all_cons ?_ ?_
     · exact len_small l3'
     refine all_cons ?_ ?_
     · exact app_ok (by decide)
     refine all_cons ?_ ?_
     · exact len_small l2
     refine all_cons ?_ ?_
     · exact app_ok (by decide)
     refine all_cons ?_ ?_
     · exact len_small l1
     refine all_cons ?_ ?_
     · exact app_ok (by decide)
     refine all_cons ?_ ?_
     · exact len_small l0
     refine all_cons ?_ ?_
     · refine ⟨tdF f st,rfl,td_len _ _,td_all _ _,?_⟩
       show _=(rowsOf (tell (ruF st) 31 [] (bgF f st)).1).map tx
       rw [hrows]
       rfl
     exact all_nil
   · intro h' G' t' f' tk' r T' m' eF D C'
     unfold g4F g2X6 at eF
     simp only [Prod.mk.injEq] at eF
     obtain ⟨_,e0,e1,e2,e3⟩:=eF
     exact fin f' tk' h' G' t' T' m' _ (fun i=>match i with | 14=>f' 4 | 15=>f' 6 | _=>f' 6) e0 e1 e2 e3 D C'
noncomputable def g3V (f st:Nat->Int) (q:Nat):Nat->Int:=match q with
 | 10=>times f (trn st)
 | 11=>times (trn st) (trn st)
 | 12=>times f (times (trn st) (trn st))
 | 13=>fun _=>plumaV f
 | 15=>fun _=>plumaV (times f (trn st))
 | 17=>fun _=>plumaV (times f (times (trn st) (trn st)))
 | _=>(tell (ruF st) 31 [] (otF f st)).2
theorem grp3 (K:LawK kt) (C:CxL kt w N A s) (F:Fac f st) {c1 tt:Nat} {tu tr:Nat->Nat} {nu nr:Nat} {bs:List Nat} {ps:List Obj} (S:LSt N s.heap ([pr,p1,p2,p3,p 4,p 9,p 11]++bs) ([fr17 w.params τ (kn p v) d,oCell (some (.ref c1)),oCell (some (.str (tx (tdF f st)) tt)),oCell none,oThree f tf nf,oThree (trn st) tu nu,oThree (ruF st) tr nr]++ps))
 (hR:∀ h' G' t' τ v t3,LSt N h' ([pr,p1,p2,p3]++bs) ([fr18 w.params τ v d,oCell (some (.ref c1)),oCell (some (.str (tx (tdF f st)) tt)),oCell (some (.str (tx (toF f st)) t3))]++ps)->CxL kt w N A ⟨h',G',s.drawn,t',s.os⟩->Wp kt w A Q E pr p1 p2 p3 23 ⟨h',G',s.drawn,t',s.os⟩) :
 Wp kt w A Q E pr p1 p2 p3 21 s:=by
 let x:=lawX (g3V f st) Lt.zero fun _=>toF f st
 let as:=[pr,p1,p2,p3,p 4,p 9,p 11]
 refine grp_runL (x:=g3L x) (e:=e4 pr p1 p2 p3) 21 2 as _ C S.nodL (S.left rfl) S.offL g4F (fun ad tk=>g3X w.params x ad tk τ (kn p v) d c1 (tx (tdF f st)) tt) (fun ad tk=>g3O x ad tk f (trn st) (ruF st) tf tu tr nf nu nr) (fun r T m ad tk h=>okNext_some (congrArg Prod.fst h)) (fun f' tk'=>K.g3 w x (adJ as f') tk' τ (kn p v) d c1 (tx (tdF f st)) tt f (trn st) (ruF st) tf tu tr nf nu nr) ?_ ?_
 · intro f' tk' q hq
   unfold g3O at hq
   revert q
   refine all_cons ?_ ?_
   · exact ⟨rfl,rfl,by decide,otF f st,ruF st,is3_t,is3_t,sm_ot _ _,F.rs,rfl,fun j _=>rfl⟩
   refine all_cons ?_ ?_
   · exact app_ok (by decide)
   refine all_cons ?_ ?_
   · exact ⟨rfl,_,is3_o3,rfl⟩
   refine all_cons ?_ ?_
   · exact app_ok (by decide)
   refine all_cons ?_ ?_
   · exact ⟨rfl,_,is3_o3,rfl⟩
   refine all_cons ?_ ?_
   · exact app_ok (by decide)
   refine all_cons ?_ ?_
   · exact ⟨rfl,_,is3_t,rfl⟩
   refine all_cons ?_ ?_
   · exact ⟨rfl,rfl,_,_,is3_t,is3_o3,F.sf,fun j _=>rfl⟩
   refine all_cons ?_ ?_
   · exact ⟨rfl,rfl,_,_,is3_t,is3_t,sm_trn F.ss,fun j _=>rfl⟩
   refine all_cons ?_ ?_
   · exact ⟨rfl,rfl,_,_,is3_t,is3_t,F.sf,fun j _=>rfl⟩
   exact all_nil
 · intro h' G' t' f' tk' r T' m' eF D C'
   unfold g4F g3X at eF
   simp only [Prod.mk.injEq] at eF
   obtain ⟨_,e0,e1,e2,e3⟩:=eF
   have S':=LSt.next S rfl D [0,1,2,3] (show _=List.map some [_,_,_,_] by
    simp only [List.map_cons,List.map_nil]
    rw [e0,e1,e2,e3]) (by decide)
   exact hR h' G' t' (fun i=>match i with | 17=>tk' 12 | i=>τ i) (fun i=>match i with | 17=>f' 10 | i=>kn p v i) (tk' 28) S' C'
end
end
section
variable [Bs]
theorem gF_cong {a b:Nat->Nat} (h:∀ j:Nat,j<7->@Eq Nat (a j) (b j)):gF a=gF b:=by
 funext j
 unfold gF
 rw [h 0 (by decide),h 1 (by decide),h 2 (by decide),h 3 (by decide),h 4 (by decide),h 5 (by decide),h 6 (by decide)]
theorem gH_cong {a b:Nat->Nat} (h:∀ j:Nat,j<7->@Eq Nat (a j) (b j)):gH a=gH b:=by
 funext j
 unfold gH
 rw [h 0 (by decide),h 1 (by decide),h 2 (by decide),h 3 (by decide),h 4 (by decide),h 5 (by decide),h 6 (by decide)]
theorem q7f_cong {a b:Nat->Nat} (h:∀ j:Nat,j<7->@Eq Nat (a j) (b j)):q7f a=q7f b:=by
 funext j
 unfold q7f
 rw [h 0 (by decide),h 1 (by decide),h 2 (by decide),h 3 (by decide),h 4 (by decide),h 5 (by decide),h 6 (by decide)]
theorem csF_cong {kt:KT} {w:World} {a b:Nat->Nat} (h:∀ j:Nat,j<7->@Eq Nat (a j) (b j)):csF kt w a=csF kt w b:=by
 unfold csF
 rw [gF_cong h]
theorem csH_cong {kt:KT} {w:World} {a b:Nat->Nat} (h:∀ j:Nat,j<7->@Eq Nat (a j) (b j)):csH kt w a=csH kt w b:=by
 unfold csH
 rw [gH_cong h]
theorem fC_cong {kt:KT} {w:World} {a b:Nat->Nat} (h:∀ j:Nat,j<7->@Eq Nat (a j) (b j)):fC kt w a=fC kt w b:=by
 unfold fC
 rw [csF_cong h,q7f_cong h]
theorem hC_cong {kt:KT} {w:World} {a b:Nat->Nat} (h:∀ j:Nat,j<7->@Eq Nat (a j) (b j)):hC kt w a=hC kt w b:=by
 unfold hC
 rw [csH_cong h,q7f_cong h]
theorem adJ_lt {as:List Nat} {f g:Nat->Nat}:∀ j,j<as.length->@Eq Nat (adJ as f j) (adJ as g j):=fun j hj=>by
 unfold adJ
 rw [if_pos hj,if_pos hj]
theorem ints_snoc {vs:List Value} {l:List Int} (h:IntsAre vs l) (a:Int) (t:Nat):IntsAre (vs++[.int a t]) (l++[a]):=by
 induction h with
 | nil=>exact .cons a t .nil
 | cons b u _ ih=>exact .cons b u ih
theorem ints_len {vs:List Value} {l:List Int} (h:IntsAre vs l):vs.length=l.length:=by
 induction h with
 | nil=>rfl
 | cons b u _ ih=>exact congrArg (· + 1) ih
noncomputable def fivK (told:List Int) (k:Nat):List Int:=((List.range k).filter fun k=>told.getD k 1 == 0).map fun k=>(5 * Int.ofNat k).fmod 31
noncomputable def nouK (told:List Int) (k:Nat):List Int:=((List.range k).filter fun k=>told.getD k 1 == 0).map Int.ofNat
theorem fivK_len (told:List Int) (k:Nat):(fivK told k).length≤k:=by
 unfold fivK
 rw [List.length_map]
 exact Nat.le_trans (List.length_filter_le _ _) (by simp)
theorem nouK_len (told:List Int) (k:Nat):(nouK told k).length≤k:=by
 unfold nouK
 rw [List.length_map]
 exact Nat.le_trans (List.length_filter_le _ _) (by simp)
theorem filt_z {told:List Int} {k:Nat} (h:told.getD k 1=0):([k].filter fun k=>told.getD k 1 == 0)=[k]:=by
 rw [List.filter_cons_of_pos (by show (told.getD k 1 == 0)=true; rw [h]; rfl)]
 rfl
theorem filt_n {told:List Int} {k:Nat} (h:told.getD k 1 ≠ 0):([k].filter fun k=>told.getD k 1 == 0)=[]:=by
 rw [List.filter_cons_of_neg (by show ¬ (told.getD k 1 == 0)=true; simpa using h)]
 rfl
theorem fivK_z {told:List Int} {k:Nat} (h:told.getD k 1=0):fivK told (k + 1)=fivK told k++[(5 * Int.ofNat k).fmod 31]:=by
 unfold fivK
 rw [List.range_succ,List.filter_append,List.map_append,filt_z h]
 rfl
theorem fivK_n {told:List Int} {k:Nat} (h:told.getD k 1 ≠ 0):fivK told (k + 1)=fivK told k:=by
 unfold fivK
 rw [List.range_succ,List.filter_append,List.map_append,filt_n h,List.map_nil,List.append_nil]
theorem nouK_z {told:List Int} {k:Nat} (h:told.getD k 1=0):nouK told (k + 1)=nouK told k++[Int.ofNat k]:=by
 unfold nouK
 rw [List.range_succ,List.filter_append,List.map_append,filt_z h]
 rfl
theorem nouK_n {told:List Int} {k:Nat} (h:told.getD k 1 ≠ 0):nouK told (k + 1)=nouK told k:=by
 unfold nouK
 rw [List.range_succ,List.filter_append,List.map_append,filt_n h,List.map_nil,List.append_nil]
noncomputable def lpL (d:Int) (tk:Nat):LL:=lawX (fun _ _=>0) { Lt.zero with sl:=fun _=>tx [d],il:=fun _=>20 + d,tk:=fun _=>tk } fun _=>[]
section
variable {kt:Params->KT} {w:World} {A:Around} {R:Result->Shared->Prop} {N:Nat} {pr p1 p2 p3 pi pa pd:Nat} {told:List Int} {bs:List Nat} {ps:List Obj}
theorem fPlain (K:LawK kt) {ad:Nat->Nat}:(fC (kt w.params) w ad).isCaller=false:=by
 rw [show (fC (kt w.params) w ad).isCaller=callerF (fC (kt w.params) w ad) from congrFun callerF_eq _]
 exact K.fplain w ad
theorem hPlain (K:LawK kt) {ad:Nat->Nat}:(hC (kt w.params) w ad).isCaller=false:=by
 rw [show (hC (kt w.params) w ad).isCaller=callerF (hC (kt w.params) w ad) from congrFun callerF_eq _]
 exact K.hplain w ad
theorem csfPlain (K:LawK kt) {ad:Nat->Nat}:(csF (kt w.params) w ad).isCaller=false:=by
 rw [show (csF (kt w.params) w ad).isCaller=callerF (csF (kt w.params) w ad) from congrFun callerF_eq _]
 exact K.csplain w ad
theorem cshPlain (K:LawK kt) {ad:Nat->Nat}:(csH (kt w.params) w ad).isCaller=false:=by
 rw [show (csH (kt w.params) w ad).isCaller=callerF (csH (kt w.params) w ad) from congrFun callerF_eq _]
 exact K.chplain w ad
noncomputable def LpS.at (y:LpS) (k m:Nat):LpS:={ y with k:=Int.ofNat k,m:=m }
theorem loopF (K:LawK kt) (hz:told.length=31) (hall:∀ d∈told,0≤d∧d<5) {G:Nat->Nat} (hG:∀ j:Nat,j<7->@Eq Nat (G j) (adJ [pr,p1,p2,p3,pi,pa,pd] G j)):∀ (m k:Nat) (later:Bool) (y:LpS) (s:Shared),k + m=31->y.z=tx told->IntsAre y.vs (fivK told k)->(m=0->later=true)->CxL kt w N A s →
 LSt N s.heap ([pr,p1,p2,p3,pi,pa,pd]++bs) ((y.at k m).lF w.params later++ps) →
 (∀ h' G' t' vs nv t kv tv,LSt N h' ([pr,p1,p2,p3,pa,pd]++bs) ([fr18 w.params y.τ y.v y.d,oCell (some (.ref y.c1)),oCell (some (.str y.z2 y.t2)),oCell (some (.str y.z y.zt)),oList vs nv,oDict [ky w.params wK t (.int kv tv)] 1]++ps)->IntsAre vs (fivK told 31)->CxL kt w N A ⟨h',G',s.drawn,t',s.os⟩->R (.ok .next) ⟨h',G',s.drawn,t',s.os⟩) →
 codeAny (model thePw w) A (fC (kt w.params) w G) R s:=by
 intro m
 induction m with
 | zero =>
  intro k later y s hk hzt hv hl C S hR
  rw [hl rfl] at S
  obtain rfl:k=31:=by exact om161 hk
  refine code_of ?_
  let as:=[pr,p1,p2,p3,pi,pa,pd]
  have hc:∀ f,fC (kt w.params) w (adJ as f)=fC (kt w.params) w G:=fun f=>fC_cong fun j hj=>(adJ_lt (as:=as) j hj).trans (hG j hj).symm
  refine seg2_dn (n:=30) (o:=oFe) (E:=mkL LL.zero (kt w.params) w) (I:=Cas) as _ C.cx2 S.nodL (S.left rfl) S.offL trivial (fPlain K) (Nat.le_refl _) (Nat.zero_le _) g5F (fun ad _=>feX w.params (lF w.params y.τ y.v y.d y.c1 y.z2 y.t2 y.z y.zt) (y.at 31 0)) (fun _ _=>[]) (fun f tk=>?_) (fun _ _ q hq=>by cases hq) ?_
  · have k:=K.fe w (adJ as f) tk (y.at 31 0)
    unfold feR lpR at k
    rw [hc f] at k
    exact k
  · intro h' G' t' f tk r T' m' eF D
    unfold g5F feX at eF
    simp only [Prod.mk.injEq] at eF
    obtain ⟨er,e0,e1,e2,e3,e5,e6⟩:=eF
    obtain rfl:=okNext_some er
    have S':=LSt.next S rfl D [0,1,2,3,5,6] (show _=List.map some [_,_,_,_,_,_] by
     simp only [List.map_cons,List.map_nil]
     rw [e0,e1,e2,e3,e5,e6]
     rfl) (by decide)
    exact hR h' G' t' y.vs y.nv y.t y.kv y.tv S' hv (C.to D.base D.inv D.size)
 | succ m ih =>
  intro k later y s hk hzt hv hl C S hR
  have hklt:k<told.length:=by exact om162 hz hk
  have hd:told[k]? = some (told.getD k 1):=by
   rw [List.getD_eq_getElem?_getD,List.getElem?_eq_getElem hklt]
   rfl
  obtain ⟨h0,h5⟩:=hall _ (List.mem_of_getElem? hd)
  obtain ⟨tk0,htk⟩:=C.ks.tab _ h0 h5
  let as:=[pr,p1,p2,p3,pi,pa,pd]
  have hc:∀ f,fC (kt w.params) w (adJ as f)=fC (kt w.params) w G:=fun f=>fC_cong fun j hj=>(adJ_lt (as:=as) j hj).trans (hG j hj).symm
  have hsok:sOk y.z (Int.ofNat k) (tx [told.getD k 1]):=by
   rw [hzt]
   exact sOk_of hd (by exact om163 hz) (.inl rfl)
  let x:=lpL (told.getD k 1) tk0
  let y1:=y.at k m
  have esub:Int.ofNat (m + 1) - 1=Int.ofNat m:=by
   show ((m + 1:Nat):Int) - 1=(m:Int)
   exact om164
  refine code_of ?_
  by_cases hzero:told.getD k 1=0
  · refine seg2_agn (n:=110) (o:=oFz) (E:=mkL (fzL x) (kt w.params) w) (I:=Cas) as _ C.cx2 S.nodL (S.left rfl) S.offL trivial (fPlain K) (Nat.le_refl _) (Nat.zero_le _) lpF (fun ad tk=>lpX (fC (kt w.params) w G) (lF w.params y.τ y.v y.d y.c1 y.z2 y.t2 y.z y.zt) w.params later y1 tk (y.vs++[.int ((5 * Int.ofNat k).fmod 31) (tk 10)]) (y.nv + 1)) (fun ad _=>fzO (kt w.params) w x ad y1) (fun f tk=>?_) (fun f tk q hq=>?_) ?_
    · have kk:=K.fz w x (adJ as f) tk later y1
      unfold fzR lpR at kk
      rw [hc f] at kk
      exact kk
    · unfold fzO at hq
      revert q
      refine all_cons ?_ ?_
      · refine app_ok ?_
        show y.vs.length<1000
        rw [ints_len hv]
        have:=fivK_len told k
        exact om165 hk this
      refine all_cons ?_ ?_
      · exact mulOk (by decide) (by decide)
      refine all_cons ?_ ?_
      · show iCmp 0 (20 + told.getD k 1 - 20) 0=true
        rw [hzero]
        rfl
      refine all_cons ?_ ?_
      · exact htk
      refine all_cons ?_ ?_
      · exact hsok
      exact all_nil
    · intro h' G' t' f tk c' T' m' eF D
      unfold lpF lpX tup7 at eF
      simp only [Prod.mk.injEq] at eF
      obtain ⟨ec,e0,e1,e2,e3,e4',e5,e6⟩:=eF
      subst ec
      have S':=LSt.next S rfl D [0,1,2,3,4,5,6] (show _=List.map some [_,_,_,_,_,_,_] by
       simp only [List.map_cons,List.map_nil]
       rw [e0,e1,e2,e3,e4',e5,e6]
       rfl) (by decide)
      refine ih (k + 1) true { y with vs:=y.vs++[.int ((5 * Int.ofNat k).fmod 31) (tk 10)],nv:=y.nv + 1,t:=kT later y1 tk,kv:=Int.ofNat k,tv:=tk 0 } _ (by exact om166 hk) hzt ?_ (fun _=>rfl) (C.to D.base D.inv D.size) ?_ hR
      · rw [fivK_z hzero]
        exact ints_snoc hv _ _
      · have S'':=S'
        rw [show y1.m=m from rfl,esub] at S''
        exact S''
  · refine seg2_agn (n:=90) (o:=oFn) (E:=mkL (fnL x) (kt w.params) w) (I:=Cas) as _ C.cx2 S.nodL (S.left rfl) S.offL trivial (fPlain K) (Nat.le_refl _) (Nat.zero_le _) lpF (fun ad tk=>lpX (fC (kt w.params) w G) (lF w.params y.τ y.v y.d y.c1 y.z2 y.t2 y.z y.zt) w.params later y1 tk y.vs y.nv) (fun ad _=>fnO (kt w.params) w x y1) (fun f tk=>?_) (fun f tk q hq=>?_) ?_
    · have kk:=K.fn w x (adJ as f) tk later y1
      unfold fnR lpR at kk
      rw [hc f] at kk
      exact kk
    · unfold fnO at hq
      revert q
      refine all_cons ?_ ?_
      · show (20 + told.getD k 1 - 20 == 0)=false
        have:(20 + told.getD k 1 - 20:Int)=told.getD k 1:=by exact om167
        rw [this]
        simpa using hzero
      refine all_cons ?_ ?_
      · exact htk
      refine all_cons ?_ ?_
      · exact hsok
      exact all_nil
    · intro h' G' t' f tk c' T' m' eF D
      unfold lpF lpX tup7 at eF
      simp only [Prod.mk.injEq] at eF
      obtain ⟨ec,e0,e1,e2,e3,e4',e5,e6⟩:=eF
      subst ec
      have S':=LSt.next S rfl D [0,1,2,3,4,5,6] (show _=List.map some [_,_,_,_,_,_,_] by
       simp only [List.map_cons,List.map_nil]
       rw [e0,e1,e2,e3,e4',e5,e6]
       rfl) (by decide)
      refine ih (k + 1) true { y with t:=kT later y1 tk,kv:=Int.ofNat k,tv:=tk 0 } _ (by exact om166 hk) hzt ?_ (fun _=>rfl) (C.to D.base D.inv D.size) ?_ hR
      · rw [fivK_n hzero]
        exact hv
      · have S'':=S'
        rw [show y1.m=m from rfl,esub] at S''
        exact S''
theorem loopH (K:LawK kt) (hz:told.length=31) (hall:∀ d∈told,0≤d∧d<5) {G:Nat->Nat} (hG:∀ j:Nat,j<7->@Eq Nat (G j) (adJ [pr,p1,p2,p3,pi,pa,pd] G j)):∀ (m k:Nat) (later:Bool) (y:LpS) (s:Shared),k + m=31->y.z=tx told->IntsAre y.vs (nouK told k)->(m=0->later=true)->CxL kt w N A s →
 LSt N s.heap ([pr,p1,p2,p3,pi,pa,pd]++bs) ((y.at k m).lH w.params later++ps) →
 (∀ h' G' t' vs nv t kv tv,LSt N h' ([pr,p1,p2,p3,pa,pd]++bs) ([fr19 w.params y.τ y.v y.d,oCell (some (.ref y.c1)),oCell (some (.str y.z y.zt)),oCell (some (.str y.z2 y.t2)),oList vs nv,oDict [ky w.params wK t (.int kv tv)] 1]++ps)->IntsAre vs (nouK told 31)->CxL kt w N A ⟨h',G',s.drawn,t',s.os⟩->R (.ok .next) ⟨h',G',s.drawn,t',s.os⟩) →
 codeAny (model thePw w) A (hC (kt w.params) w G) R s:=by
 intro m
 induction m with
 | zero =>
  intro k later y s hk hzt hv hl C S hR
  rw [hl rfl] at S
  obtain rfl:k=31:=by exact om161 hk
  refine code_of ?_
  let as:=[pr,p1,p2,p3,pi,pa,pd]
  have hc:∀ f,hC (kt w.params) w (adJ as f)=hC (kt w.params) w G:=fun f=>hC_cong fun j hj=>(adJ_lt (as:=as) j hj).trans (hG j hj).symm
  refine seg2_dn (n:=30) (o:=oHe) (E:=mkL LL.zero (kt w.params) w) (I:=Cas) as _ C.cx2 S.nodL (S.left rfl) S.offL trivial (hPlain K) (Nat.le_refl _) (Nat.zero_le _) g5F (fun ad _=>feX w.params (lH w.params y.τ y.v y.d y.c1 y.z2 y.t2 y.z y.zt) (y.at 31 0)) (fun _ _=>[]) (fun f tk=>?_) (fun _ _ q hq=>by cases hq) ?_
  · have k:=K.he w (adJ as f) tk (y.at 31 0)
    unfold heR lpR at k
    rw [hc f] at k
    exact k
  · intro h' G' t' f tk r T' m' eF D
    unfold g5F feX at eF
    simp only [Prod.mk.injEq] at eF
    obtain ⟨er,e0,e1,e2,e3,e5,e6⟩:=eF
    obtain rfl:=okNext_some er
    have S':=LSt.next S rfl D [0,1,2,3,5,6] (show _=List.map some [_,_,_,_,_,_] by
     simp only [List.map_cons,List.map_nil]
     rw [e0,e1,e2,e3,e5,e6]
     rfl) (by decide)
    exact hR h' G' t' y.vs y.nv y.t y.kv y.tv S' hv (C.to D.base D.inv D.size)
 | succ m ih =>
  intro k later y s hk hzt hv hl C S hR
  have hklt:k<told.length:=by exact om162 hz hk
  have hd:told[k]? = some (told.getD k 1):=by
   rw [List.getD_eq_getElem?_getD,List.getElem?_eq_getElem hklt]
   rfl
  obtain ⟨h0,h5⟩:=hall _ (List.mem_of_getElem? hd)
  let as:=[pr,p1,p2,p3,pi,pa,pd]
  have hc:∀ f,hC (kt w.params) w (adJ as f)=hC (kt w.params) w G:=fun f=>hC_cong fun j hj=>(adJ_lt (as:=as) j hj).trans (hG j hj).symm
  have hsok:sOk y.z (Int.ofNat k) (tx [told.getD k 1]):=by
   rw [hzt]
   exact sOk_of hd (by exact om163 hz) (.inl rfl)
  let x:=lpL (told.getD k 1) 0
  let y1:=y.at k m
  have esub:Int.ofNat (m + 1) - 1=Int.ofNat m:=by
   show ((m + 1:Nat):Int) - 1=(m:Int)
   exact om164
  refine code_of ?_
  by_cases hzero:told.getD k 1=0
  · refine seg2_agn (n:=60) (o:=oHz) (E:=mkL (hzL x) (kt w.params) w) (I:=Cas) as _ C.cx2 S.nodL (S.left rfl) S.offL trivial (hPlain K) (Nat.le_refl _) (Nat.zero_le _) lpF (fun ad tk=>lpX (hC (kt w.params) w G) (lH w.params y.τ y.v y.d y.c1 y.z2 y.t2 y.z y.zt) w.params later y1 tk (y.vs++[.int (Int.ofNat k) (tk 0)]) (y.nv + 1)) (fun ad _=>hzO x ad y1) (fun f tk=>?_) (fun f tk q hq=>?_) ?_
    · have kk:=K.hz w x (adJ as f) tk later y1
      unfold hzR lpR at kk
      rw [hc f] at kk
      exact kk
    · unfold hzO at hq
      revert q
      refine all_cons ?_ ?_
      · refine app_ok ?_
        show y.vs.length<1000
        rw [ints_len hv]
        have:=nouK_len told k
        exact om165 hk this
      refine all_cons ?_ ?_
      · show ((tx [told.getD k 1]).cps.toList == [60])=true
        rw [hzero]
        rfl
      refine all_cons ?_ ?_
      · exact hsok
      exact all_nil
    · intro h' G' t' f tk c' T' m' eF D
      unfold lpF lpX tup7 at eF
      simp only [Prod.mk.injEq] at eF
      obtain ⟨ec,e0,e1,e2,e3,e4',e5,e6⟩:=eF
      subst ec
      have S':=LSt.next S rfl D [0,1,2,3,4,5,6] (show _=List.map some [_,_,_,_,_,_,_] by
       simp only [List.map_cons,List.map_nil]
       rw [e0,e1,e2,e3,e4',e5,e6]
       rfl) (by decide)
      refine ih (k + 1) true { y with vs:=y.vs++[.int (Int.ofNat k) (tk 0)],nv:=y.nv + 1,t:=kT later y1 tk,kv:=Int.ofNat k,tv:=tk 0 } _ (by exact om166 hk) hzt ?_ (fun _=>rfl) (C.to D.base D.inv D.size) ?_ hR
      · rw [nouK_z hzero]
        exact ints_snoc hv _ _
      · have S'':=S'
        rw [show y1.m=m from rfl,esub] at S''
        exact S''
  · refine seg2_agn (n:=60) (o:=oHn) (E:=mkL (hnL x) (kt w.params) w) (I:=Cas) as _ C.cx2 S.nodL (S.left rfl) S.offL trivial (hPlain K) (Nat.le_refl _) (Nat.zero_le _) lpF (fun ad tk=>lpX (hC (kt w.params) w G) (lH w.params y.τ y.v y.d y.c1 y.z2 y.t2 y.z y.zt) w.params later y1 tk y.vs y.nv) (fun _ _=>hnO x y1) (fun f tk=>?_) (fun f tk q hq=>?_) ?_
    · have kk:=K.hn w x (adJ as f) tk later y1
      unfold hnR lpR at kk
      rw [hc f] at kk
      exact kk
    · unfold hnO at hq
      revert q
      refine all_cons ?_ ?_
      · exact tx1_ne (by exact om168 h0 hzero) h5
      refine all_cons ?_ ?_
      · exact hsok
      exact all_nil
    · intro h' G' t' f tk c' T' m' eF D
      unfold lpF lpX tup7 at eF
      simp only [Prod.mk.injEq] at eF
      obtain ⟨ec,e0,e1,e2,e3,e4',e5,e6⟩:=eF
      subst ec
      have S':=LSt.next S rfl D [0,1,2,3,4,5,6] (show _=List.map some [_,_,_,_,_,_,_] by
       simp only [List.map_cons,List.map_nil]
       rw [e0,e1,e2,e3,e4',e5,e6]
       rfl) (by decide)
      refine ih (k + 1) true { y with t:=kT later y1 tk,kv:=Int.ofNat k,tv:=tk 0 } _ (by exact om166 hk) hzt ?_ (fun _=>rfl) (C.to D.base D.inv D.size) ?_ hR
      · rw [nouK_n hzero]
        exact hv
      · have S'':=S'
        rw [show y1.m=m from rfl,esub] at S''
        exact S''
end
end
section
variable [Bs]
section
variable {kt:Params->KT} {w:World} {A:Around} {s:Shared} {N:Nat} {Q:Flow->Shared->Prop} {E:Value->Shared->Prop} {pr p1 p2 p3:Nat} {τ v:Nat->Nat} {d:Nat->Int} {f st:Nat->Int}
theorem CxL.under {c:Code} {k:Result->Sem Fin} {κ:Kn} (C:CxL kt w N A s) (hd:A.depth + 430<recursionLimit) (hu:A.units + 600<cLine) (hk:κ.okc) (hc:c.isCaller=false) (hl:κ.len=0):CxL kt w N (arK A (.cons c k κ)) s:=by
 have h1:=arK_depth A (.cons c k κ) ⟨hc,hk⟩
 have h2:=arK_units A (.cons c k κ) ⟨hc,hk⟩
 have h3:(Kn.cons c k κ).len=1:=by
  show κ.len + 1=1
  exact om169 hl
 rw [h3] at h1 h2
 exact ⟨C.ks,C.top,(arK_handled A _).trans C.hA,by exact om170 hd h1,by exact om171 hu h2,C.base,C.hN,C.inv⟩
theorem CxL.out {A':Around} {s':Shared} (C:CxL kt w N A s) (C':CxL kt w N A' s'):CxL kt w N A s':=⟨C.ks,C.top,C.hA,C.hd,C.hu,C'.base,C'.hN,C'.inv⟩
noncomputable def kv18 (pa:Nat) (v:Nat->Nat) (i:Nat):Nat:=match i with | 18=>pa | i=>v i
theorem grp4 (K:LawK kt) (C:CxL kt w N A s) (hd2:A.depth + 430<recursionLimit) (hu2:A.units + 600<cLine) {c1 tt t3:Nat} {told:List Int} {z2:Str} (h31:told.length=31) (hall:∀ d∈told,0≤d∧d<5) {bs:List Nat} {ps:List Obj} (S:LSt N s.heap ([pr,p1,p2,p3]++bs) ([fr18 w.params τ v d,oCell (some (.ref c1)),oCell (some (.str z2 tt)),oCell (some (.str (tx told) t3))]++ps))
 (hR:∀ h' G' t' τ v pa vs nv,LSt N h' ([pr,p1,p2,p3,pa]++bs) ([fr19 w.params τ (kv18 pa v) d,oCell (some (.ref c1)),oCell (some (.str z2 tt)),oCell (some (.str (tx told) t3)),oList vs nv]++ps)->IntsAre vs (fivK told 31)->CxL kt w N A ⟨h',G',s.drawn,t',s.os⟩->Wp kt w A Q E pr p1 p2 p3 24 ⟨h',G',s.drawn,t',s.os⟩) :
 Wp kt w A Q E pr p1 p2 p3 23 s:=by
 let as:=[pr,p1,p2,p3]
 refine grp_stq (x:=LL.zero) (e:=e4 pr p1 p2 p3) 23 1 as _ C S.nodL (S.left rfl) S.offL g4S (fun ad _=>g4X (kt w.params) w ad τ v d c1 z2 tt (tx told) t3) (fun _ _=>[]) (fun ad tk=>g4R (kt w.params) w ad tk τ v d c1 z2 tt (tx told) t3) (fun _ _=>rfl) (fun f' tk'=>K.g4 w (adJ as f') tk' τ v d c1 z2 tt (tx told) t3) (fun _ _ q hq=>by cases hq) ?_
 intro h1 G1 t1 f1 tk1 c1' T1 m1 eF D C1 k1 k2 k3 k4
 unfold g4S g4X at eF
 have eF:=eF
 injection eF with ed eF
 injection eF with ec eF
 injection eF with e0 eF
 injection eF with e1 eF
 injection eF with e2 eF
 injection eF with e3 eF
 injection eF with e5 eF
 injection eF with e6 e7
 let g:=adJ as f1
 have hlen:(g4R (kt w.params) w g tk1 τ v d c1 z2 tt (tx told) t3).sκ.len=0:=by
  have a1:(g4R (kt w.params) w g tk1 τ v d c1 z2 tt (tx told) t3).sd=0:=ed
  have a2:(g4R (kt w.params) w g tk1 τ v d c1 z2 tt (tx told) t3).sκ.len≤(g4R (kt w.params) w g tk1 τ v d c1 z2 tt (tx told) t3).sd:=k3
  exact om142 a1 a2
 have S1:=LSt.next S rfl D [0,1,2,3,5,6,7] (show _=List.map some [_,_,_,_,_,_,_] by
  simp only [List.map_cons,List.map_nil]
  rw [e0,e1,e2,e3,e5,e6,e7]) (by decide)
 let as7:=[pr,p1,p2,p3,f1 5,f1 6,f1 7]
 have CA:=C1.under (c:=(g4R (kt w.params) w g tk1 τ v d c1 z2 tt (tx told) t3).sc) (k:=(g4R (kt w.params) w g tk1 τ v d c1 z2 tt (tx told) t3).sk) (κ:=(g4R (kt w.params) w g tk1 τ v d c1 z2 tt (tx told) t3).sκ) hd2 hu2 k1 k2 hlen
 have hcs:∀ f2,c1'=csF (kt w.params) w (adJ as7 f2):=fun f2=>by
  rw [ec]
  refine csF_cong fun j hj=>?_
  match j,hj with
  | 0,_ | 1,_ | 2,_ | 3,_ | 4,_ | 5,_ | 6,_=>rfl
 rw [hcs (fun _=>0)]
 let y:LpS:=⟨τ,v,d,c1,z2,tt,tx told,t3,0,31,[],0,0,0,0⟩
 have S1:LSt N h1 (as7++bs) (((LpS.start y).lF w.params false)++ps):=S1
 refine code_of ?_
 refine seg2_agn (n:=30) (o:=cond (rowC w) oF0 oF0b) (E:=mkL LL.zero (kt w.params) w) (I:=Cas) as7 _ CA.cx2 S1.nodL (S1.left rfl) S1.offL trivial (csfPlain K) (Nat.le_refl _) (Nat.zero_le _) lpF (fun ad _=>tup7 (fC (kt w.params) w ad) ((LpS.start y).lF w.params false)) (fun _ _=>[]) (fun f2 tk2=>?_) (fun _ _ q hq=>by cases hq) ?_
 · have k:=K.f0 w (adJ as7 f2) tk2 y
   rw [f0R_eq] at k
   rw [show csF (kt w.params) w (adJ as7 f2)=csF (kt w.params) w (adJ as7 fun _=>0) from csF_cong fun j hj=>adJ_lt (as:=as7) j hj] at k
   exact k
 intro h2 G2 t2 f2 tk2 c2' T2 m2 eF D2
 unfold lpF tup7 at eF
 simp only [Prod.mk.injEq] at eF
 obtain ⟨ec2,e0,e1,e2,e3,e4',e5,e6⟩:=eF
 subst ec2
 have S2:=LSt.next S1 rfl D2 [0,1,2,3,4,5,6] (show _=List.map some [_,_,_,_,_,_,_] by
  simp only [List.map_cons,List.map_nil]
  rw [e0,e1,e2,e3,e4',e5,e6]
  rfl) (by decide)
 refine loopF (pr:=pr) (p1:=p1) (p2:=p2) (p3:=p3) (pi:=f1 5) (pa:=f1 6) (pd:=f1 7) (told:=told) (bs:=bs) (ps:=ps) K h31 hall (G:=adJ as7 f2) (fun j hj=>adJ_lt (as:=as7) j hj) 31 0 false y ⟨h2,G2,s.drawn,t2,s.os⟩ rfl rfl .nil (fun h=>by cases h) (CA.to D2.base D2.inv D2.size) S2 ?_
 intro h3 G3 t3' vs nv td kv tv S3 hv C3
 have S3:LSt N h3 ([pr,p1,p2,p3,f1 6,f1 7]++bs) ([fr18 w.params τ v d,oCell (some (.ref c1)),oCell (some (.str z2 tt)),oCell (some (.str (tx told) t3)),oList vs nv,oDict [ky w.params wK td (.int kv tv)] 1]++ps):=S3
 have CB:CxL kt w N A ⟨h3,G3,s.drawn,t3',s.os⟩:=C.out C3
 refine seg2_dn (n:=30) (o:=oG4b) (E:=mkL LL.zero (kt w.params) w) (I:=Cas) [pr,p1,p2,p3,f1 6,f1 7] _ CB.cx2 S3.nodL (S3.left rfl) S3.offL k1 k2 k3 (by show (g4R (kt w.params) w g tk1 τ v d c1 z2 tt (tx told) t3).sκ.len≤13; exact om143 hlen) g4bF (fun ad tk=>g4bX w.params ad tk τ v d c1 z2 tt (tx told) t3 vs nv) (fun _ _=>[]) (fun f4 tk4=>?_) (fun _ _ q hq=>by cases hq) ?_
 · have k:=K.g4b w g tk1 τ v d c1 z2 tt (tx told) t3 (adJ [pr,p1,p2,p3,f1 6,f1 7] f4) tk4 τ v d c1 z2 tt (tx told) t3 vs nv td kv tv
   unfold g4bR tlR at k
   rw [show kF (adJ [pr,p1,p2,p3,f1 6,f1 7] f4) g=g from by
    funext j
    match j with
    | 0 | 1 | 2 | 3 | 4 | 5 | 6 | 7=>rfl
    | n + 8=>rfl] at k
   exact k
 · intro h4 G4 t4 f4 tk4 r4 T4 m4 eF D4
   unfold g4bF g4bX at eF
   simp only [Prod.mk.injEq] at eF
   obtain ⟨er,e0,e1,e2,e3,e4'⟩:=eF
   obtain rfl:=okNext_some er
   have S4:=LSt.next S3 rfl D4 [0,1,2,3,4] (show _=List.map some [_,_,_,_,_] by
    simp only [List.map_cons,List.map_nil]
    rw [e0,e1,e2,e3,e4']) (by decide)
   exact hR h4 G4 t4 (fun i=>match i with | 18=>tk4 0 | i=>τ i) v (f1 6) vs nv S4 hv (CB.to D4.base D4.inv D4.size)
theorem retB_some {r:Result} {T:BT} {m:Nat} {b:Bool} (h:retB r T m=some b):r = .ok (.ret (.bool b)):=by
 unfold retB at h
 split at h
 · cases h; rfl
 · cases h
theorem grp5 (K:LawK kt) (C:CxL kt w N A s) (hd2:A.depth + 430<recursionLimit) (hu2:A.units + 600<cLine) {u1:List Int} {z2:Str} {l:List Int} (h31:u1.length=31) (hall:∀ d∈u1,0≤d∧d<5) (h64:l.length<64) (he:sortI l=nouK u1 31) {c1 tt t3 pa:Nat} {vs:List Value} {nv:Nat} (hv:IntsAre vs l) {po:Nat} {oo:Obj} (S:LSt N s.heap ([pr,p1,p2,p3,pa]++[po]) ([fr19 w.params τ (kv18 pa v) d,oCell (some (.ref c1)),oCell (some (.str (tx u1) tt)),oCell (some (.str (z2) t3)),oList vs nv]++[oo]))
 (hR:∀ h' G' t',h'.get? po=some oo->CxL kt w N A ⟨h',G',s.drawn,t',s.os⟩->Q (.ret (.bool true)) ⟨h',G',s.drawn,t',s.os⟩) :
 Wp kt w A Q E pr p1 p2 p3 24 s:=by
 let as:=[pr,p1,p2,p3,pa]
 let x:=lawX (fun _ _=>0) Lt.zero fun _=>sortI (l)
 let v':=kv18 pa v
 refine grp_stq (x:=g5L x) (e:=e4 pr p1 p2 p3) 24 1 as _ C S.nodL (S.left rfl) S.offL g5S (fun ad tk=>g5X (kt w.params) w x ad tk τ v' d c1 (tx u1) tt (z2) t3) (fun ad _=>[opSort x ad 4 10 vs nv]) (fun ad tk=>g5R (kt w.params) w x ad tk τ v' d c1 (tx u1) tt (z2) t3 vs nv) (fun _ _=>rfl) (fun f' tk'=>K.g5 w x (adJ as f') tk' τ v' d c1 (tx u1) tt (z2) t3 vs nv) (fun _ _ q hq=>?_) ?_
 · revert q
   refine all_cons ?_ ?_
   · refine ⟨rfl,rfl,_,hv,?_,rfl⟩
     rw [ints_len hv]
     exact h64
   exact all_nil
 intro h1 G1 t1 f1 tk1 c1' T1 m1 eF D C1 k1 k2 k3 k4
 unfold g5S g5X at eF
 have eF:=eF
 injection eF with ed eF
 injection eF with ec eF
 injection eF with e0 eF
 injection eF with e1 eF
 injection eF with e2 eF
 injection eF with e3 eF
 injection eF with e5 eF
 injection eF with e7 eF
 injection eF with e8 e9
 let g:=adJ as f1
 have hlen:(g5R (kt w.params) w x g tk1 τ v' d c1 (tx u1) tt (z2) t3 vs nv).sκ.len=0:=by
  have a1:(g5R (kt w.params) w x g tk1 τ v' d c1 (tx u1) tt (z2) t3 vs nv).sd=0:=ed
  have a2:(g5R (kt w.params) w x g tk1 τ v' d c1 (tx u1) tt (z2) t3 vs nv).sκ.len≤(g5R (kt w.params) w x g tk1 τ v' d c1 (tx u1) tt (z2) t3 vs nv).sd:=k3
  exact om142 a1 a2
 have S1:=LSt.next S rfl D [0,1,2,3,7,8,9,5] (show _=List.map some [_,_,_,_,_,_,_,_] by
  simp only [List.map_cons,List.map_nil]
  rw [e0,e1,e2,e3,e7,e8,e9,e5]) (by decide)
 let as7:=[pr,p1,p2,p3,f1 7,f1 8,f1 9]
 have CA:=C1.under (c:=(g5R (kt w.params) w x g tk1 τ v' d c1 (tx u1) tt (z2) t3 vs nv).sc) (k:=(g5R (kt w.params) w x g tk1 τ v' d c1 (tx u1) tt (z2) t3 vs nv).sk) (κ:=(g5R (kt w.params) w x g tk1 τ v' d c1 (tx u1) tt (z2) t3 vs nv).sκ) hd2 hu2 k1 k2 hlen
 have hcs:∀ f2,c1'=csH (kt w.params) w (adJ as7 f2):=fun f2=>by
  rw [ec]
  refine csH_cong fun j hj=>?_
  match j,hj with
  | 0,_ | 1,_ | 2,_ | 3,_ | 4,_ | 5,_ | 6,_=>rfl
 rw [hcs (fun _=>0)]
 let y:LpS:=⟨τ,v',d,c1,z2,t3,tx u1,tt,0,31,[],0,0,0,0⟩
 let so:=oList (intsT (sortI (l)) (dec (tk1 0) (tk1 1))) (tk1 2)
 have S1:LSt N h1 (as7++[f1 5,po]) (((LpS.start y).lH w.params false)++[so,oo]):=S1
 refine code_of ?_
 refine seg2_agn (n:=30) (o:=cond (rowC w) oH0 oH0b) (E:=mkL LL.zero (kt w.params) w) (I:=Cas) as7 _ CA.cx2 S1.nodL (S1.left rfl) S1.offL trivial (cshPlain K) (Nat.le_refl _) (Nat.zero_le _) lpF (fun ad _=>tup7 (hC (kt w.params) w ad) ((LpS.start y).lH w.params false)) (fun _ _=>[]) (fun f2 tk2=>?_) (fun _ _ q hq=>by cases hq) ?_
 · have k:=K.h0 w (adJ as7 f2) tk2 y
   rw [f0R_eq] at k
   rw [show csH (kt w.params) w (adJ as7 f2)=csH (kt w.params) w (adJ as7 fun _=>0) from csH_cong fun j hj=>adJ_lt (as:=as7) j hj] at k
   exact k
 intro h2 G2 t2 f2 tk2 c2' T2 m2 eF D2
 unfold lpF tup7 at eF
 simp only [Prod.mk.injEq] at eF
 obtain ⟨ec2,e0,e1,e2,e3,e4',e5,e6⟩:=eF
 subst ec2
 have S2:=LSt.next S1 rfl D2 [0,1,2,3,4,5,6] (show _=List.map some [_,_,_,_,_,_,_] by
  simp only [List.map_cons,List.map_nil]
  rw [e0,e1,e2,e3,e4',e5,e6]
  rfl) (by decide)
 refine loopH (pr:=pr) (p1:=p1) (p2:=p2) (p3:=p3) (pi:=f1 7) (pa:=f1 8) (pd:=f1 9) (told:=u1) (bs:=[f1 5,po]) (ps:=[so,oo]) K h31 hall (G:=adJ as7 f2) (fun j hj=>adJ_lt (as:=as7) j hj) 31 0 false y ⟨h2,G2,s.drawn,t2,s.os⟩ rfl rfl .nil (fun h=>by cases h) (CA.to D2.base D2.inv D2.size) S2 ?_
 intro h3 G3 t3' ws nw td kv tv S3 hw C3
 have S3:LSt N h3 [pr,p1,p2,p3,f1 8,f1 9,f1 5,po] [fr19 w.params τ v' d,oCell (some (.ref c1)),oCell (some (.str (tx u1) tt)),oCell (some (.str (z2) t3)),oList ws nw,oDict [ky w.params wK td (.int kv tv)] 1,so,oo]:=S3
 have S4:=S3.pick [0,1,2,3,4,6,5,7] (by decide) (fun j hj=>by
  simp only [List.mem_cons,List.not_mem_nil,or_false] at hj
  show j<8
  exact om172 hj)
 have S4:LSt N h3 ([pr,p1,p2,p3,f1 8,f1 5,f1 9]++[po]) ([fr19 w.params τ v' d,oCell (some (.ref c1)),oCell (some (.str (tx u1) tt)),oCell (some (.str (z2) t3)),oList ws nw,so,oDict [ky w.params wK td (.int kv tv)] 1]++[oo]):=S4
 have CB:CxL kt w N A ⟨h3,G3,s.drawn,t3',s.os⟩:=C.out C3
 refine seg2_dn (n:=40) (o:=oG5b) (E:=mkL (g5bL LL.zero) (kt w.params) w) (I:=Cas) [pr,p1,p2,p3,f1 8,f1 5,f1 9] _ CB.cx2 S4.nodL (S4.left rfl) S4.offL k1 k2 k3 (by show (g5R (kt w.params) w x g tk1 τ v' d c1 (tx u1) tt (z2) t3 vs nv).sκ.len≤13; exact om143 hlen) retB (fun _ _=>some true) (fun ad _=>[opSeq ad 5 4 2 (intsT (sortI (l)) (dec (tk1 0) (tk1 1))) ws true]) (fun f4 tk4=>?_) (fun f4 tk4 q hq=>?_) ?_
 · have k:=K.g5b w x g tk1 τ v' d c1 (tx u1) tt (z2) t3 vs nv (adJ [pr,p1,p2,p3,f1 8,f1 5,f1 9] f4) tk4 τ v' d c1 (tx u1) tt (z2) t3 ws nw (intsT (sortI (l)) (dec (tk1 0) (tk1 1))) (tk1 2) td kv tv
   unfold g5bR tlR at k
   rw [show kH (adJ [pr,p1,p2,p3,f1 8,f1 5,f1 9] f4) g=g from by
    funext j
    match j with
    | 0 | 1 | 2 | 3 | 4 | 5 | 6 | 7 | 8 | 9=>rfl
    | n + 10=>rfl] at k
   exact k
 · revert q
   refine all_cons ?_ ?_
   · obtain ⟨b,c,rfl⟩:=ints_dec hw
     rw [he]
     exact seqEq
   exact all_nil
 · intro h4 G4 t4 f4 tk4 r4 T4 m4 eF D4
   rw [retB_some eF]
   have S5:=LSt.next S4 rfl D4 [] (os':=[]) rfl (by simp)
   exact hR h4 G4 t4 (at_map S5.objs (i:=0) (show 0<1 by decide)) (CB.to D4.base D4.inv D4.size)
end
end
section
variable [Bs]
section
variable {kt:Params->KT} {w:World} {A:Around} {s:Shared} {N:Nat} {R:Result->Shared->Prop}
theorem fiv_eq (told:List Int):fiv told=fivK told 31:=rfl
theorem nou_eq (told:List Int):nou told=nouK told 31:=rfl
theorem law_c (K:LawK kt) (C:CxL kt w N A s) (hd2:A.depth + 430<recursionLimit) (hu2:A.units + 600<cLine) {pa n:Nat} {vs:List Value} {l:List Int} (hl:s.heap.get? pa=some (oList vs n)) (na:N≤pa) (hi:IntsAre vs l) (h63:vs.length≤63)
 (hF:∀ d0 d1,Fac (fstO d0) (stpO d1))
 (hR:∀ h' G' t',h'.get? pa=some (oList vs n)->CxL kt w N A ⟨h',G',s.drawn,t',s.os⟩->R (.ok (.ret (.bool true))) ⟨h',G',s.drawn,t',s.os⟩) :
 codeAny (model thePw w) A (.call (.ref 270) ⟨[.ref pa],[]⟩) R s:=by
 refine call_means (N:=N) ⟨C.hA,by exact om181 hd2,C.base,C.top.top,C.top.lim⟩ (K.def_ _) ?_
 refine seg2_agn (E:=mkL LL.zero (kt w.params) w) (I:=Cas) [pa] [oList vs n] C.cx2 (by simp) (by simp [hl]) (by simpa using na) trivial rfl (Nat.le_refl _) (Nat.zero_le _) lawAF (fun ad tk=>lawAX (kt w.params) w ad tk vs n) (fun _ _=>[]) (fun f tk=>K.begin_ w (adJ [pa] f) tk vs n) (fun _ _ q hq=>by cases hq) ?_
 intro h1 G1 t1 f1 tk1 c1 T1 m1 eF D
 unfold lawAF lawAX at eF
 simp only [Prod.mk.injEq] at eF
 obtain ⟨ec,e0,e1,e2,e3,e4'⟩:=eF
 subst ec
 have C1:CxL kt w N A ⟨h1,G1,s.drawn,t1,s.os⟩:=C.to D.base D.inv D.size
 have S1:=LSt.next (bs:=[]) (ps:=[]) (N:=N) (as:=[pa]) (os:=[oList vs n]) ⟨by simp,by simpa using na,by simp [hl]⟩ rfl D [0,1,2,3,4] (show _=List.map some [_,_,_,_,_] by
  simp only [List.map_cons,List.map_nil]
  rw [e0,e1,e2,e3,e4']) (by decide)
 have S1:LSt N h1 [pa,f1 1,f1 2,f1 3,f1 4] [oList vs n,fr1 w.params (fun _=>tk1 0) (fun _=>pa) (fun _=>0),oCell none,oCell none,oCell none]:=S1
 refine func_of (by have:=C.hu; exact om182 hu2) ?_
 show Wp kt w A (fun f s'=>∃ v,f = .ret v∧R (.ok (.ret v)) s') (fun _ _=>False) (f1 1) (f1 2) (f1 3) (f1 4) 0 _
 refine grp0 K C1 hi h63 S1 ?_
 intro h2 G2 t2 p τ v d d0 d1 tf ts nf ns S2 C2
 have F:=hF d0 d1
 revert F S2
 generalize fstO d0=f
 generalize stpO d1=st
 intro S2 F
 refine grp1 K C2 F S2 ?_
 intro h3 G3 t3 p τ v pn tq tu tb tn nq nu nb nn S3 C3
 have S3:=S3.pick [0,1,2,3,9,8,5,4,6,7,10] (by decide) (fun j hj=>by
  simp only [List.mem_cons,List.not_mem_nil,or_false] at hj
  show j<11
  exact om183 hj)
 refine grpR (bs:=[p 4,p 8,p 9,pa]) (ps:=[oThree f tf nf,oThree (times st st) tq nq,oThree (trn st) tu nu,oList vs n]) (nn:=nrm st) (bb:=times st (trn st)) (st:=st) (tn:=tn) (tb:=tb) (ts:=ts) K C3 S3 ?_
 intro h4 G4 t4 p' τ v tr nr hp S4 C4
 have S4:=S4.pick [0,1,2,3,4,8,6,9,7,10,11] (by decide) (fun j hj=>by
  simp only [List.mem_cons,List.not_mem_nil,or_false] at hj
  show j<12
  exact om184 hj)
 have S4:LSt N h4 ([f1 1,f1 2,f1 3,f1 4,pn,p 4,p 7,p 8,p' 11]++[p 9,pa]) ([fr12 w.params τ (kn p' v) d,oCell (some (.ref pn)),oCell none,oCell none,oThree (nrm st) tn nn,oThree f tf nf,oThree st ts ns,oThree (times st st) tq nq,oThree (ruF st) tr nr]++[oThree (trn st) tu nu,oList vs n]):=S4
 rw [← hp 4 (by decide),← hp 7 (by decide),← hp 8 (by decide),← hp 9 (by decide)] at S4
 refine grpD K C4 F S4 ?_
 intro h5 G5 t5 τ v tt S5 C5
 have S5:=S5.pick [0,1,2,3,4,6,5,7] (by decide) (fun j hj=>by
  simp only [List.mem_cons,List.not_mem_nil,or_false] at hj
  show j<8
  exact om172 hj)
 refine grp2 (bs:=[p' 4,p' 9,p' 11,pa]) (ps:=[oThree f tf nf,oThree (trn st) tu nu,oThree (ruF st) tr nr,oList vs n]) K C5 F S5 ?_
 intro h6 G6 t6 τ v S6 C6
 refine grp3 (bs:=[pa]) (ps:=[oList vs n]) K C6 F S6 ?_
 intro h7 G7 t7 τ v t3' S7 C7
 have S7:LSt N h7 ([f1 1,f1 2,f1 3,f1 4]++[pa]) ([fr18 w.params τ v d,oCell (some (.ref pn)),oCell (some (.str (tx (tdF f st)) tt)),oCell (some (.str (tx (toF f st)) t3'))]++[oList vs n]):=S7
 have e7:sortI (fivK (toF f st) 31)=nouK (tdF f st) 31:=by
  rw [← fiv_eq,← nou_eq]
  exact F.other
 have l7:(fivK (toF f st) 31).length<64:=Nat.lt_of_le_of_lt (fivK_len _ 31) (by decide)
 have h31:=td_len f st
 have hall:=td_all f st
 have h31':=to_len f st
 have hall':=to_all f st
 revert S7 e7 l7 h31 hall h31' hall'
 generalize tdF f st=u1
 generalize toF f st=u2
 intro S7 e7 l7 h31 hall h31' hall'
 refine grp4 (told:=u2) (z2:=tx u1) K C7 hd2 hu2 h31' hall' S7 ?_
 intro h8 G8 t8 τ v pb vs' nv S8 hv C8
 revert hv e7 l7
 generalize fivK u2 31=l8
 intro e7 l7 hv
 refine grp5 (u1:=u1) (z2:=tx u2) (l:=l8) K C8 hd2 hu2 h31 hall l7 e7 hv S8 ?_
 intro h9 G9 t9 o9 C9
 exact ⟨_,rfl,hR h9 G9 t9 o9 C9⟩
end
end
noncomputable def zn (l:List Stmt) (i:Nat):Stmt:=Nat.rec (motive:=fun _=>List Stmt->Stmt) (fun l=>l.headD (.Pass ⟨0,0,0,0⟩)) (fun _ f l=>f l.tail) i l
noncomputable def zf (i:Nat):Stmt:=zn PySem.Challenge.pw_tr0064_01.main.body i
noncomputable def zi (s:Stmt):List Stmt:=match s with
 | .ClassDef _ _ _ b _ _ _ _ _ _ _=>b
 | _=>[]
noncomputable def zm (i j:Nat):Stmt:=zn (zi (zf i)) j
noncomputable def zb (s:Stmt):FuncBody:=.stmts (match s with
 | .FunctionDef _ _ b _ _ _ _ _ _ _=>b
 | _=>[])
noncomputable def za (s:Stmt):Arguments:=match s with
 | .FunctionDef _ a _ _ _ _ _ _ _ _=>a
 | _=>⟨[],[],none,[],[],none,[]⟩
noncomputable def zs (s:Stmt):Scope:=match s with
 | .FunctionDef _ _ _ _ _ _ c _ _ _=>c
 | _=>⟨.function,[],false,false,[]⟩
noncomputable def ze (P:Params) (n:Str) (t:Nat) (v:Value):DictEntry:=⟨PyData.keyHash P n,.str n t,v⟩
noncomputable def c0:Value:=(.type SZ.s14018661285674007319x4)
noncomputable def c1:Str:=⟨#[95,95,110,97,109,101,95,95]⟩
noncomputable def c2:Str:=⟨#[98,117,105,108,116,105,110,115]⟩
noncomputable def c3:Str:=⟨#[95,95,100,111,99,95,95]⟩
noncomputable def c4:Str:=⟨#[95,95,112,97,99,107,97,103,101,95,95]⟩
noncomputable def c5:Str:=⟨#[95,95,108,111,97,100,101,114,95,95]⟩
noncomputable def c6:Str:=⟨#[95,95,115,112,101,99,95,95]⟩
noncomputable def c7:Value:=(.type SZ.s9222952809800978799x4)
noncomputable def c8:Value:=(.type SZ.s2742458400755230247x6)
noncomputable def c9:Value:=(.type SZ.s2766695959194262286x5)
noncomputable def c10:Value:=(.type SZ.s17162191345867700912x4)
noncomputable def c11:Value:=(.type SZ.s10852414792293593619x7)
noncomputable def c12 (P:Params):List DictEntry:=[(ze P c1 1 (.str c2 160)),(ze P c3 2 (.builtin "builtins.__doc__:str#opaque")),(ze P c4 3 (.builtin "builtins.__package__:str#opaque")),(ze P c5 4 (.builtin "builtins.__loader__:shared#opaque")),(ze P c6 5 (.builtin SZ.s11665532747177232413x24)),(ze P ⟨#[95,95,98,117,105,108,100,95,99,108,97,115,115,95,95]⟩ 6 (.builtin SZ.s15183661809925369436x15)),(ze P ⟨#[95,95,105,109,112,111,114,116,95,95]⟩ 7 (.builtin SZ.s13915890719876406383x10)),(ze P ⟨#[97,98,115]⟩ 8 (.builtin SZ.s13459172003223722735x3)),(ze P ⟨#[97,108,108]⟩ 9 (.builtin SZ.s10557405761357834076x3)),(ze P ⟨#[97,110,121]⟩ 10 (.builtin SZ.s4233737765568776869x3)),(ze P ⟨#[97,115,99,105,105]⟩ 11 (.builtin SZ.s2508922471967985374x5)),(ze P ⟨#[98,105,110]⟩ 12 (.builtin SZ.s15574269061696679450x3)),(ze P ⟨#[98,114,101,97,107,112,111,105,110,116]⟩ 13 (.builtin SZ.s6016482663378992977x10)),(ze P ⟨#[99,97,108,108,97,98,108,101]⟩ 14 (.builtin SZ.s5596568736180474577x8)),(ze P ⟨#[99,104,114]⟩ 15 (.builtin SZ.s2839554839881490554x3)),(ze P ⟨#[99,111,109,112,105,108,101]⟩ 16 (.builtin SZ.s725004073602090463x7)),(ze P ⟨#[100,101,108,97,116,116,114]⟩ 17 (.builtin SZ.s9436932552931045734x7)),(ze P ⟨#[100,105,114]⟩ 18 (.builtin SZ.s2754603736356183583x3)),(ze P ⟨#[100,105,118,109,111,100]⟩ 19 (.builtin SZ.s15185746759980889043x6)),(ze P ⟨#[101,118,97,108]⟩ 20 (.builtin SZ.s8192189862530294059x4)),(ze P ⟨#[101,120,101,99]⟩ 21 (.builtin SZ.s7038307821325472102x4)),(ze P ⟨#[102,111,114,109,97,116]⟩ 22 (.builtin SZ.s5662562618415449548x6)),(ze P ⟨#[103,101,116,97,116,116,114]⟩ 23 (.builtin SZ.s15281542589158584767x7)),(ze P ⟨#[103,108,111,98,97,108,115]⟩ 24 (.builtin SZ.s17651547275483570877x7)),(ze P ⟨#[104,97,115,97,116,116,114]⟩ 25 (.builtin SZ.s4036449017235975746x7)),(ze P ⟨#[104,97,115,104]⟩ 26 (.builtin SZ.s8879979712987360175x4)),(ze P ⟨#[104,101,120]⟩ 27 (.builtin SZ.s1801250619170735830x3)),(ze P ⟨#[105,100]⟩ 28 (.builtin SZ.s17659931425627118568x2)),(ze P ⟨#[105,110,112,117,116]⟩ 29 (.builtin SZ.s6063217899685152688x5)),(ze P ⟨#[105,115,105,110,115,116,97,110,99,101]⟩ 30 (.builtin SZ.s8008927332132565319x10)),(ze P ⟨#[105,115,115,117,98,99,108,97,115,115]⟩ 31 (.builtin SZ.s3544116645089599534x10)),(ze P ⟨#[105,116,101,114]⟩ 32 (.builtin SZ.s13761710972054866084x4)),(ze P ⟨#[97,105,116,101,114]⟩ 33 (.builtin SZ.s12896375587409280029x5)),(ze P ⟨#[108,101,110]⟩ 34 (.builtin SZ.s13014049009108672802x3)),(ze P ⟨#[108,111,99,97,108,115]⟩ 35 (.builtin SZ.s13935586738268321596x6)),(ze P ⟨#[109,97,120]⟩ 36 (.builtin SZ.s8200498257699607233x3)),(ze P ⟨#[109,105,110]⟩ 37 (.builtin SZ.s14114244577727609259x3)),(ze P ⟨#[110,101,120,116]⟩ 38 (.builtin SZ.s1499430450269397089x4)),(ze P ⟨#[97,110,101,120,116]⟩ 39 (.builtin SZ.s8755793994789770505x5)),(ze P ⟨#[111,99,116]⟩ 40 (.builtin SZ.s15725212667919936108x3)),(ze P ⟨#[111,114,100]⟩ 41 (.builtin SZ.s15791221867095933363x3)),(ze P ⟨#[112,111,119]⟩ 42 (.builtin SZ.s81309575031448614x3)),(ze P ⟨#[112,114,105,110,116]⟩ 43 (.builtin SZ.s8069831620301644142x5)),(ze P ⟨#[114,101,112,114]⟩ 44 (.builtin SZ.s10061844253413749634x4)),(ze P ⟨#[114,111,117,110,100]⟩ 45 (.builtin SZ.s9496514870978017513x5)),(ze P ⟨#[115,101,116,97,116,116,114]⟩ 46 (.builtin SZ.s8899691144933366716x7)),(ze P ⟨#[115,111,114,116,101,100]⟩ 47 (.builtin SZ.s15201008993051130160x6)),(ze P ⟨#[115,117,109]⟩ 48 (.builtin SZ.s741896355592496720x3)),(ze P ⟨#[118,97,114,115]⟩ 49 (.builtin SZ.s17925004256654032244x4)),(ze P ⟨#[78,111,110,101]⟩ 50 .none),(ze P ⟨#[69,108,108,105,112,115,105,115]⟩ 51 .ellipsis),(ze P ⟨#[78,111,116,73,109,112,108,101,109,101,110,116,101,100]⟩ 52 .notImplemented),(ze P ⟨#[70,97,108,115,101]⟩ 53 (.bool false)),(ze P ⟨#[84,114,117,101]⟩ 54 (.bool true)),(ze P ⟨#[98,111,111,108]⟩ 55 (.type SZ.s11695548795398191787x4)),(ze P ⟨#[109,101,109,111,114,121,118,105,101,119]⟩ 56 (.type SZ.s4156966113859768872x10)),(ze P ⟨#[98,121,116,101,97,114,114,97,121]⟩ 57 (.type SZ.s9501651726347032510x9)),(ze P ⟨#[98,121,116,101,115]⟩ 58 (.type SZ.s15722918466584999320x5)),(ze P ⟨#[99,108,97,115,115,109,101,116,104,111,100]⟩ 59 (.type SZ.s591115383303110208x11)),(ze P ⟨#[99,111,109,112,108,101,120]⟩ 60 (.type SZ.s15721156781594690315x7)),(ze P ⟨#[100,105,99,116]⟩ 61 c0),(ze P ⟨#[101,110,117,109,101,114,97,116,101]⟩ 62 (.type SZ.s14340494229221121180x9)),(ze P ⟨#[102,105,108,116,101,114]⟩ 63 (.type SZ.s13429844117177748173x6)),(ze P ⟨#[102,108,111,97,116]⟩ 64 (.type SZ.s16463266125957815391x5)),(ze P ⟨#[102,114,111,122,101,110,115,101,116]⟩ 65 (.type SZ.s4922535414793169389x9)),(ze P ⟨#[112,114,111,112,101,114,116,121]⟩ 66 (.type SZ.s8101838861749082086x8)),(ze P ⟨#[105,110,116]⟩ 67 (.type SZ.s7066276694103001551x3)),(ze P ⟨#[108,105,115,116]⟩ 68 c7),(ze P ⟨#[109,97,112]⟩ 69 (.type SZ.s462964344163437139x3)),(ze P ⟨#[111,98,106,101,99,116]⟩ 70 c8),(ze P ⟨#[114,97,110,103,101]⟩ 71 (.type SZ.s1438033511350832697x5)),(ze P ⟨#[114,101,118,101,114,115,101,100]⟩ 72 (.type SZ.s14365286008749172514x8)),(ze P ⟨#[115,101,116]⟩ 73 (.type SZ.s3642769012341782148x3)),(ze P ⟨#[115,108,105,99,101]⟩ 74 (.type SZ.s4674234679698826739x5)),(ze P ⟨#[115,116,97,116,105,99,109,101,116,104,111,100]⟩ 75 (.type SZ.s16656946322747308186x12)),(ze P ⟨#[115,116,114]⟩ 76 (.type SZ.s10796804682411823810x3)),(ze P ⟨#[115,117,112,101,114]⟩ 77 (.type SZ.s4290257624100764138x5)),(ze P ⟨#[116,117,112,108,101]⟩ 78 c9),(ze P ⟨#[116,121,112,101]⟩ 79 c10),(ze P ⟨#[122,105,112]⟩ 80 (.type SZ.s14339709457334898076x3)),(ze P ⟨#[95,95,100,101,98,117,103,95,95]⟩ 81 (.bool true)),(ze P ⟨#[66,97,115,101,69,120,99,101,112,116,105,111,110]⟩ 82 (.type SZ.s4278001404047624695x13)),(ze P ⟨#[66,97,115,101,69,120,99,101,112,116,105,111,110,71,114,111,117,112]⟩ 83 (.type SZ.s6585700554429387442x18)),(ze P ⟨#[69,120,99,101,112,116,105,111,110]⟩ 84 (.type SZ.s5946037652744460706x9)),(ze P ⟨#[71,101,110,101,114,97,116,111,114,69,120,105,116]⟩ 85 (.type SZ.s7410770068591931388x13)),(ze P ⟨#[75,101,121,98,111,97,114,100,73,110,116,101,114,114,117,112,116]⟩ 86 (.type SZ.s11817881795495490833x17)),(ze P ⟨#[83,121,115,116,101,109,69,120,105,116]⟩ 87 (.type SZ.s15679963881808890155x10)),(ze P ⟨#[65,114,105,116,104,109,101,116,105,99,69,114,114,111,114]⟩ 88 (.type SZ.s3871700062485845797x15)),(ze P ⟨#[65,115,115,101,114,116,105,111,110,69,114,114,111,114]⟩ 89 (.type SZ.s7689518266570723881x14)),(ze P ⟨#[65,116,116,114,105,98,117,116,101,69,114,114,111,114]⟩ 90 (.type SZ.s9001593270443806431x14)),(ze P ⟨#[66,117,102,102,101,114,69,114,114,111,114]⟩ 91 (.type SZ.s6882542574934516792x11)),(ze P ⟨#[69,79,70,69,114,114,111,114]⟩ 92 (.type SZ.s14403400214490484960x8)),(ze P ⟨#[73,109,112,111,114,116,69,114,114,111,114]⟩ 93 (.type SZ.s14457978657717015782x11)),(ze P ⟨#[76,111,111,107,117,112,69,114,114,111,114]⟩ 94 (.type SZ.s1753610191782819921x11)),(ze P ⟨#[77,101,109,111,114,121,69,114,114,111,114]⟩ 95 (.type SZ.s14119380538032626715x11)),(ze P ⟨#[78,97,109,101,69,114,114,111,114]⟩ 96 (.type SZ.s11437920000406562045x9)),(ze P ⟨#[79,83,69,114,114,111,114]⟩ 97 c11),(ze P ⟨#[82,101,102,101,114,101,110,99,101,69,114,114,111,114]⟩ 98 (.type SZ.s14816307405966870543x14)),(ze P ⟨#[82,117,110,116,105,109,101,69,114,114,111,114]⟩ 99 (.type SZ.s8682627914449686677x12)),(ze P ⟨#[83,116,111,112,65,115,121,110,99,73,116,101,114,97,116,105,111,110]⟩ 100 (.type SZ.s4428170145600203450x18)),(ze P ⟨#[83,116,111,112,73,116,101,114,97,116,105,111,110]⟩ 101 (.type SZ.s5991306692159431302x13)),(ze P ⟨#[83,121,110,116,97,120,69,114,114,111,114]⟩ 102 (.type SZ.s16067994140765818257x11)),(ze P ⟨#[83,121,115,116,101,109,69,114,114,111,114]⟩ 103 (.type SZ.s2327743974964600596x11)),(ze P ⟨#[84,121,112,101,69,114,114,111,114]⟩ 104 (.type SZ.s2804747833354056582x9)),(ze P ⟨#[86,97,108,117,101,69,114,114,111,114]⟩ 105 (.type SZ.s6070975301684473832x10)),(ze P ⟨#[87,97,114,110,105,110,103]⟩ 106 (.type SZ.s14270485950484850486x7)),(ze P ⟨#[70,108,111,97,116,105,110,103,80,111,105,110,116,69,114,114,111,114]⟩ 107 (.type SZ.s12041534306414923332x18)),(ze P ⟨#[79,118,101,114,102,108,111,119,69,114,114,111,114]⟩ 108 (.type SZ.s2531307568338490285x13)),(ze P ⟨#[90,101,114,111,68,105,118,105,115,105,111,110,69,114,114,111,114]⟩ 109 (.type SZ.s631175304937289666x17)),(ze P ⟨#[66,121,116,101,115,87,97,114,110,105,110,103]⟩ 110 (.type SZ.s5144983644357021410x12)),(ze P ⟨#[68,101,112,114,101,99,97,116,105,111,110,87,97,114,110,105,110,103]⟩ 111 (.type SZ.s18039099521571816885x18)),(ze P ⟨#[69,110,99,111,100,105,110,103,87,97,114,110,105,110,103]⟩ 112 (.type SZ.s6011586214260557989x15)),(ze P ⟨#[70,117,116,117,114,101,87,97,114,110,105,110,103]⟩ 113 (.type SZ.s5430567037509283100x13)),(ze P ⟨#[73,109,112,111,114,116,87,97,114,110,105,110,103]⟩ 114 (.type SZ.s8117915138073963741x13)),(ze P ⟨#[80,101,110,100,105,110,103,68,101,112,114,101,99,97,116,105,111,110,87,97,114,110,105,110,103]⟩ 115 (.type SZ.s3423317712779056401x25)),(ze P ⟨#[82,101,115,111,117,114,99,101,87,97,114,110,105,110,103]⟩ 116 (.type SZ.s2007317383269046180x15)),(ze P ⟨#[82,117,110,116,105,109,101,87,97,114,110,105,110,103]⟩ 117 (.type SZ.s17481586968713580700x14)),(ze P ⟨#[83,121,110,116,97,120,87,97,114,110,105,110,103]⟩ 118 (.type SZ.s2450899226349176912x13)),(ze P ⟨#[85,110,105,99,111,100,101,87,97,114,110,105,110,103]⟩ 119 (.type SZ.s16626165730633575011x14)),(ze P ⟨#[85,115,101,114,87,97,114,110,105,110,103]⟩ 120 (.type SZ.s14288496050688921416x11)),(ze P ⟨#[66,108,111,99,107,105,110,103,73,79,69,114,114,111,114]⟩ 121 (.type SZ.s5735081916595925998x15)),(ze P ⟨#[67,104,105,108,100,80,114,111,99,101,115,115,69,114,114,111,114]⟩ 122 (.type SZ.s3865607918536308442x17)),(ze P ⟨#[67,111,110,110,101,99,116,105,111,110,69,114,114,111,114]⟩ 123 (.type SZ.s13337502604062700212x15)),(ze P ⟨#[70,105,108,101,69,120,105,115,116,115,69,114,114,111,114]⟩ 124 (.type SZ.s13114017843053701147x15)),(ze P ⟨#[70,105,108,101,78,111,116,70,111,117,110,100,69,114,114,111,114]⟩ 125 (.type SZ.s17467278006356818441x17)),(ze P ⟨#[73,110,116,101,114,114,117,112,116,101,100,69,114,114,111,114]⟩ 126 (.type SZ.s17722149559621369488x16)),(ze P ⟨#[73,115,65,68,105,114,101,99,116,111,114,121,69,114,114,111,114]⟩ 127 (.type SZ.s7855274175708717672x17)),(ze P ⟨#[78,111,116,65,68,105,114,101,99,116,111,114,121,69,114,114,111,114]⟩ 128 (.type SZ.s13351283678309829046x18)),(ze P ⟨#[80,101,114,109,105,115,115,105,111,110,69,114,114,111,114]⟩ 129 (.type SZ.s6668348653404991179x15)),(ze P ⟨#[80,114,111,99,101,115,115,76,111,111,107,117,112,69,114,114,111,114]⟩ 130 (.type SZ.s12913350958174193794x18)),(ze P ⟨#[84,105,109,101,111,117,116,69,114,114,111,114]⟩ 131 (.type SZ.s16115879512475548326x12)),(ze P ⟨#[73,110,100,101,110,116,97,116,105,111,110,69,114,114,111,114]⟩ 132 (.type SZ.s15920661018069861047x16)),(ze P ⟨#[95,73,110,99,111,109,112,108,101,116,101,73,110,112,117,116,69,114,114,111,114]⟩ 133 (.type SZ.s10779130036587390575x21)),(ze P ⟨#[73,110,100,101,120,69,114,114,111,114]⟩ 134 (.type SZ.s7801419657504700863x10)),(ze P ⟨#[75,101,121,69,114,114,111,114]⟩ 135 (.type SZ.s1688129525768580628x8)),(ze P ⟨#[77,111,100,117,108,101,78,111,116,70,111,117,110,100,69,114,114,111,114]⟩ 136 (.type SZ.s1031832959479892071x19)),(ze P ⟨#[78,111,116,73,109,112,108,101,109,101,110,116,101,100,69,114,114,111,114]⟩ 137 (.type SZ.s8991790508128307865x19)),(ze P ⟨#[80,121,116,104,111,110,70,105,110,97,108,105,122,97,116,105,111,110,69,114,114,111,114]⟩ 138 (.type SZ.s14539662485746970245x23)),(ze P ⟨#[82,101,99,117,114,115,105,111,110,69,114,114,111,114]⟩ 139 (.type SZ.s11643622729373238714x14)),(ze P ⟨#[85,110,98,111,117,110,100,76,111,99,97,108,69,114,114,111,114]⟩ 140 (.type SZ.s3386828779285465597x17)),(ze P ⟨#[85,110,105,99,111,100,101,69,114,114,111,114]⟩ 141 (.type SZ.s13042696260734638735x12)),(ze P ⟨#[66,114,111,107,101,110,80,105,112,101,69,114,114,111,114]⟩ 142 (.type SZ.s18239426817015966623x15)),(ze P ⟨#[67,111,110,110,101,99,116,105,111,110,65,98,111,114,116,101,100,69,114,114,111,114]⟩ 143 (.type SZ.s1270395311379034370x22)),(ze P ⟨#[67,111,110,110,101,99,116,105,111,110,82,101,102,117,115,101,100,69,114,114,111,114]⟩ 144 (.type SZ.s10696252587037064777x22)),(ze P ⟨#[67,111,110,110,101,99,116,105,111,110,82,101,115,101,116,69,114,114,111,114]⟩ 145 (.type SZ.s7852717498200857586x20)),(ze P ⟨#[84,97,98,69,114,114,111,114]⟩ 146 (.type SZ.s6377248116197321094x8)),(ze P ⟨#[85,110,105,99,111,100,101,68,101,99,111,100,101,69,114,114,111,114]⟩ 147 (.type SZ.s3834378056692298002x18)),(ze P ⟨#[85,110,105,99,111,100,101,69,110,99,111,100,101,69,114,114,111,114]⟩ 148 (.type SZ.s17586630440231065808x18)),(ze P ⟨#[85,110,105,99,111,100,101,84,114,97,110,115,108,97,116,101,69,114,114,111,114]⟩ 149 (.type SZ.s15234114252648025395x21)),(ze P ⟨#[69,120,99,101,112,116,105,111,110,71,114,111,117,112]⟩ 150 (.type SZ.s8496462677383758984x14)),(ze P ⟨#[69,110,118,105,114,111,110,109,101,110,116,69,114,114,111,114]⟩ 151 c11),(ze P ⟨#[73,79,69,114,114,111,114]⟩ 152 c11),(ze P ⟨#[111,112,101,110]⟩ 153 (.builtin SZ.s16789243406116112673x4)),(ze P ⟨#[113,117,105,116]⟩ 154 (.builtin SZ.s14400166428656793546x20)),(ze P ⟨#[101,120,105,116]⟩ 155 (.builtin SZ.s5857708277339239366x20)),(ze P ⟨#[99,111,112,121,114,105,103,104,116]⟩ 156 (.builtin "builtins.copyright#opaque")),(ze P ⟨#[99,114,101,100,105,116,115]⟩ 157 (.builtin "builtins.credits#opaque")),(ze P ⟨#[108,105,99,101,110,115,101]⟩ 158 (.builtin "builtins.license#opaque")),(ze P ⟨#[104,101,108,112]⟩ 159 (.builtin SZ.s7804999707787243718x20))]
noncomputable def oz0 (P:Params):Obj:=⟨c0,none,(.dict ⟨(c12 P)⟩ 159),#[]⟩
noncomputable def c13:Str:=⟨#[95,95,109,97,105,110,95,95]⟩
noncomputable def oz1 (P:Params):Obj:=⟨c0,none,(.dict #[(ze P c2 162 (.ref 4)),(ze P c13 163 (.ref 5))] 2),#[]⟩
noncomputable def oz2:Obj:=⟨.none,none,(.dict #[] 0),#[]⟩
noncomputable def c14:Value:=(.str ⟨#[108,97,119,95,116,114,48,48,54,52,95,48,49]⟩ 668)
noncomputable def c15:Str:=⟨#[47,99,108,97,105,109,47,99,117,116,46,112,121]⟩
noncomputable def c16:Str:=⟨#[95,119,97,108,108]⟩
noncomputable def c17:Str:=⟨#[114,103,98,95,116,111,95,121,105,113]⟩
noncomputable def c18:Str:=⟨#[114,103,98,95,116,111,95,104,108,115]⟩
noncomputable def c19:Str:=⟨#[104,108,115,95,116,111,95,114,103,98]⟩
noncomputable def c20:Str:=⟨#[95,86,97,108,117,101,70,111,114,109,97,116,116,101,114]⟩
noncomputable def c21:Str:=⟨#[95,65,99,99,117,109,117,108,97,116,111,114]⟩
noncomputable def c22:Str:=⟨#[73,83,69,79,70]⟩
noncomputable def c23:Str:=⟨#[95,108,97,119,95,116,117,114,110,101,100]⟩
noncomputable def c24:Str:=⟨#[95,108,97,119,95,116,105,109,101,115]⟩
noncomputable def c25:Str:=⟨#[95,108,97,119,95,108,117,109,97]⟩
noncomputable def c26:Str:=⟨#[95,108,97,119,95,112,108,97,105,110,95,108,117,109,97]⟩
noncomputable def c27:Str:=⟨#[95,108,97,119,95,114,117,110]⟩
noncomputable def c28:Str:=⟨#[95,108,97,119,95,112,97,103,101]⟩
noncomputable def c29:Str:=⟨#[95,108,97,119,95,119,97,121,115]⟩
noncomputable def c30:Str:=⟨#[108,97,119]⟩
noncomputable def c31 (P:Params):List DictEntry:=[(ze P c1 165 c14),(ze P c3 166 .none),(ze P c4 167 .none),(ze P c5 168 (.builtin SZ.s7097527257260152453x26)),(ze P c6 169 .none),(ze P ⟨#[95,95,97,110,110,111,116,97,116,105,111,110,115,95,95]⟩ 170 (.ref 6)),(ze P ⟨#[95,95,98,117,105,108,116,105,110,115,95,95]⟩ 171 (.ref 4)),(ze P ⟨#[95,95,102,105,108,101,95,95]⟩ 173 (.str c15 172)),(ze P ⟨#[95,95,99,97,99,104,101,100,95,95]⟩ 174 .none),(ze P c16 193 (.ref 21)),(ze P ⟨#[79,78,69,95,84,72,73,82,68]⟩ 199 (.float 4599676419421066581 198)),(ze P ⟨#[79,78,69,95,83,73,88,84,72]⟩ 203 (.float 4595172819793696085 202)),(ze P ⟨#[84,87,79,95,84,72,73,82,68]⟩ 207 (.float 4604180019048437077 206)),(ze P c17 219 (.ref 28)),(ze P c18 238 (.ref 35)),(ze P c19 249 (.ref 42)),(ze P ⟨#[95,118]⟩ 258 (.ref 49)),(ze P ⟨#[78,76]⟩ 262 (.str ⟨#[10]⟩ 261)),(ze P ⟨#[69,77,80,84,89,83,84,82,73,78,71]⟩ 264 (.str ⟨#[]⟩ 263)),(ze P c20 367 (.ref 122)),(ze P c21 463 (.ref 206)),(ze P ⟨#[69,78,68,77,65,82,75,69,82]⟩ 467 (.int 0 466)),(ze P ⟨#[76,80,65,82]⟩ 469 (.int 7 468)),(ze P ⟨#[82,80,65,82]⟩ 471 (.int 8 470)),(ze P ⟨#[76,83,81,66]⟩ 473 (.int 9 472)),(ze P ⟨#[82,83,81,66]⟩ 475 (.int 10 474)),(ze P ⟨#[67,79,76,79,78]⟩ 477 (.int 11 476)),(ze P ⟨#[67,79,77,77,65]⟩ 479 (.int 12 478)),(ze P ⟨#[83,69,77,73]⟩ 481 (.int 13 480)),(ze P ⟨#[80,76,85,83]⟩ 483 (.int 14 482)),(ze P ⟨#[77,73,78,85,83]⟩ 485 (.int 15 484)),(ze P ⟨#[83,84,65,82]⟩ 487 (.int 16 486)),(ze P ⟨#[83,76,65,83,72]⟩ 489 (.int 17 488)),(ze P ⟨#[86,66,65,82]⟩ 491 (.int 18 490)),(ze P ⟨#[65,77,80,69,82]⟩ 493 (.int 19 492)),(ze P ⟨#[76,69,83,83]⟩ 495 (.int 20 494)),(ze P ⟨#[71,82,69,65,84,69,82]⟩ 497 (.int 21 496)),(ze P ⟨#[69,81,85,65,76]⟩ 499 (.int 22 498)),(ze P ⟨#[68,79,84]⟩ 501 (.int 23 500)),(ze P ⟨#[80,69,82,67,69,78,84]⟩ 503 (.int 24 502)),(ze P ⟨#[76,66,82,65,67,69]⟩ 505 (.int 25 504)),(ze P ⟨#[82,66,82,65,67,69]⟩ 507 (.int 26 506)),(ze P ⟨#[69,81,69,81,85,65,76]⟩ 509 (.int 27 508)),(ze P ⟨#[78,79,84,69,81,85,65,76]⟩ 511 (.int 28 510)),(ze P ⟨#[76,69,83,83,69,81,85,65,76]⟩ 513 (.int 29 512)),(ze P ⟨#[71,82,69,65,84,69,82,69,81,85,65,76]⟩ 515 (.int 30 514)),(ze P ⟨#[84,73,76,68,69]⟩ 517 (.int 31 516)),(ze P ⟨#[67,73,82,67,85,77,70,76,69,88]⟩ 519 (.int 32 518)),(ze P ⟨#[76,69,70,84,83,72,73,70,84]⟩ 521 (.int 33 520)),(ze P ⟨#[82,73,71,72,84,83,72,73,70,84]⟩ 523 (.int 34 522)),(ze P ⟨#[68,79,85,66,76,69,83,84,65,82]⟩ 525 (.int 35 524)),(ze P ⟨#[80,76,85,83,69,81,85,65,76]⟩ 527 (.int 36 526)),(ze P ⟨#[77,73,78,69,81,85,65,76]⟩ 529 (.int 37 528)),(ze P ⟨#[83,84,65,82,69,81,85,65,76]⟩ 531 (.int 38 530)),(ze P ⟨#[83,76,65,83,72,69,81,85,65,76]⟩ 533 (.int 39 532)),(ze P ⟨#[80,69,82,67,69,78,84,69,81,85,65,76]⟩ 535 (.int 40 534)),(ze P ⟨#[65,77,80,69,82,69,81,85,65,76]⟩ 537 (.int 41 536)),(ze P ⟨#[86,66,65,82,69,81,85,65,76]⟩ 539 (.int 42 538)),(ze P ⟨#[67,73,82,67,85,77,70,76,69,88,69,81,85,65,76]⟩ 541 (.int 43 540)),(ze P ⟨#[76,69,70,84,83,72,73,70,84,69,81,85,65,76]⟩ 543 (.int 44 542)),(ze P ⟨#[82,73,71,72,84,83,72,73,70,84,69,81,85,65,76]⟩ 545 (.int 45 544)),(ze P ⟨#[68,79,85,66,76,69,83,84,65,82,69,81,85,65,76]⟩ 547 (.int 46 546)),(ze P ⟨#[68,79,85,66,76,69,83,76,65,83,72]⟩ 549 (.int 47 548)),(ze P ⟨#[68,79,85,66,76,69,83,76,65,83,72,69,81,85,65,76]⟩ 551 (.int 48 550)),(ze P ⟨#[65,84]⟩ 553 (.int 49 552)),(ze P ⟨#[65,84,69,81,85,65,76]⟩ 555 (.int 50 554)),(ze P ⟨#[82,65,82,82,79,87]⟩ 557 (.int 51 556)),(ze P ⟨#[69,76,76,73,80,83,73,83]⟩ 559 (.int 52 558)),(ze P ⟨#[67,79,76,79,78,69,81,85,65,76]⟩ 561 (.int 53 560)),(ze P ⟨#[69,88,67,76,65,77,65,84,73,79,78]⟩ 563 (.int 54 562)),(ze P ⟨#[69,88,65,67,84,95,84,79,75,69,78,95,84,89,80,69,83]⟩ 660 (.ref 211)),(ze P c22 667 (.ref 220)),(ze P c23 675 (.ref 225)),(ze P c24 688 (.ref 232)),(ze P c25 695 (.ref 239)),(ze P c26 702 (.ref 246)),(ze P c27 708 (.ref 251)),(ze P c28 717 (.ref 258)),(ze P c29 728 (.ref 265)),(ze P c30 734 (.ref 270))]
noncomputable def oz3 (P:Params):Obj:=⟨c0,none,(.dict ⟨(c31 P)⟩ 80),#[]⟩
noncomputable def c32:Value:=(.type SZ.s6658869562736209489x6)
noncomputable def oz4:Obj:=⟨c32,(some 0),.plain,#[]⟩
noncomputable def oz5:Obj:=⟨c32,(some 3),.plain,#[]⟩
noncomputable def oz6:Obj:=⟨c0,none,(.dict #[] 0),#[]⟩
noncomputable def c33:Obj:=⟨c9,none,(.seq #[] 0),#[]⟩
noncomputable def oz7:Obj:=c33
noncomputable def c34:Obj:=⟨.none,none,(.fields #[]),#[]⟩
noncomputable def oz8:Obj:=c34
noncomputable def c35:Value:=(.type SZ.s5856160107412720595x4)
noncomputable def c36:Str:=⟨#[60,109,111,100,117,108,101,62]⟩
noncomputable def oz9:Obj:=⟨c35,none,(.fields #[(.str c36 176),(.str c36 177),(.str c15 178),(.int 1 0),(.int 0 0),(.int 0 0),(.int 0 0),(.int 0 0),(.ref 7),(.bool false),(.int 175 0),(.ref 8),.none,.none,.none,.none,(.int 179 0),(.int 1 0),(.str c15 180)]),#[]⟩
noncomputable def c37:Value:=(.type SZ.s658472552662922059x5)
noncomputable def c38:Option Value:=(some (.ref 3))
noncomputable def oz10:Obj:=⟨c37,none,.plain,#[(some (.ref 9)),c38,c38,none,(some (.str c13 164)),none,(some (.ref 0))]⟩
noncomputable def oz11:Obj:=c33
noncomputable def oz12:Obj:=⟨.none,none,(.fields #[(.int 1 0),(.int 0 0),(.ref 20),(.int 8 0),(.int 0 0),(.ref 27),(.int 13 0),(.int 0 0),(.ref 34),(.int 36 0),(.int 0 0),(.ref 41),(.int 45 0),(.int 0 0),(.ref 48),(.int 57 0),(.int 0 0),(.ref 55),(.int 99 0),(.int 0 0),(.ref 133),(.int 186 0),(.int 0 0),(.ref 219),(.int 189 0),(.int 0 0),(.ref 224),(.int 192 0),(.int 0 0),(.ref 231),(.int 200 0),(.int 0 0),(.ref 238),(.int 202 0),(.int 0 0),(.ref 245),(.int 204 0),(.int 0 0),(.ref 250),(.int 217 0),(.int 0 0),(.ref 257),(.int 225 0),(.int 0 0),(.ref 264),(.int 233 0),(.int 0 0),(.ref 269)]),#[]⟩
noncomputable def oz13:Obj:=⟨c35,none,(.fields #[(.str c36 182),(.str c36 183),(.str c15 184),(.int 1 0),(.int 0 0),(.int 0 0),(.int 0 0),(.int 0 0),(.ref 11),(.bool false),(.int 181 0),(.ref 12),.none,.none,.none,.none,(.int 185 0),(.int 1 0),(.str c15 186)]),#[]⟩
noncomputable def oz14:Obj:=⟨c37,none,.plain,#[(some (.ref 13)),c38,c38,none,(some (.str c13 164)),none,(some (.ref 0))]⟩
noncomputable def oz15:Obj:=c33
noncomputable def oz16:Obj:=c34
noncomputable def oz17:Obj:=⟨c9,none,(.seq #[(.str ⟨#[107]⟩ 190)] 0),#[]⟩
noncomputable def oz18:Obj:=c33
noncomputable def oz19:Obj:=⟨.none,none,(.func ⟨c16,c16,(za (zf 0)),(zb (zf 0)),(zs (zf 0)),0,[],.none,.none,.none,.none,none,.none,.none,0⟩),#[]⟩
noncomputable def oz20:Obj:=⟨c35,none,(.fields #[(.str c16 187),(.str c16 188),(.str c15 189),(.int 1 0),(.int 1 0),(.int 0 0),(.int 0 0),(.int 3 0),(.ref 15),(.bool true),(.int 181 0),(.ref 16),.none,(.ref 17),(.ref 18),(.ref 19),(.int 191 0),(.int 1 0),(.str c15 192)]),#[]⟩
noncomputable def c39:Value:=(.type SZ.s7174869446012820540x8)
noncomputable def oz21:Obj:=⟨c39,none,(.func ⟨c16,c16,(za (zf 0)),(zb (zf 0)),(zs (zf 0)),3,[],.none,.none,.none,(.str c13 164),none,(.ref 20),.none,0⟩),#[]⟩
noncomputable def oz22:Obj:=c33
noncomputable def oz23:Obj:=c34
noncomputable def oz24:Obj:=⟨c9,none,(.seq #[(.str ⟨#[114]⟩ 211),(.str ⟨#[103]⟩ 212),(.str ⟨#[98]⟩ 213),(.str ⟨#[121]⟩ 214),(.str ⟨#[105]⟩ 215),(.str ⟨#[113]⟩ 216)] 0),#[]⟩
noncomputable def oz25:Obj:=c33
noncomputable def oz26:Obj:=⟨.none,none,(.func ⟨c17,c17,(za (zf 5)),(zb (zf 5)),(zs (zf 5)),0,[],.none,.none,.none,.none,none,.none,.none,0⟩),#[]⟩
noncomputable def oz27:Obj:=⟨c35,none,(.fields #[(.str c17 208),(.str c17 209),(.str c15 210),(.int 8 0),(.int 3 0),(.int 0 0),(.int 0 0),(.int 3 0),(.ref 22),(.bool true),(.int 181 0),(.ref 23),.none,(.ref 24),(.ref 25),(.ref 26),(.int 217 0),(.int 8 0),(.str c15 218)]),#[]⟩
noncomputable def c40:Value:=(.str ⟨#[99,112,121,51,49,51,46,99,111,108,111,114,115,121,115]⟩ 194)
noncomputable def oz28:Obj:=⟨c39,none,(.func ⟨c17,c17,(za (zf 5)),(zb (zf 5)),(zs (zf 5)),3,[],.none,.none,.none,c40,none,(.ref 27),.none,0⟩),#[]⟩
noncomputable def oz29:Obj:=c33
noncomputable def oz30:Obj:=c34
noncomputable def oz31:Obj:=⟨c9,none,(.seq #[(.str ⟨#[114]⟩ 223),(.str ⟨#[103]⟩ 224),(.str ⟨#[98]⟩ 225),(.str ⟨#[109,97,120,99]⟩ 226),(.str ⟨#[109,105,110,99]⟩ 227),(.str ⟨#[115,117,109,99]⟩ 228),(.str ⟨#[114,97,110,103,101,99]⟩ 229),(.str ⟨#[108]⟩ 230),(.str ⟨#[115]⟩ 231),(.str ⟨#[114,99]⟩ 232),(.str ⟨#[103,99]⟩ 233),(.str ⟨#[98,99]⟩ 234),(.str ⟨#[104]⟩ 235)] 0),#[]⟩
noncomputable def oz32:Obj:=c33
noncomputable def oz33:Obj:=⟨.none,none,(.func ⟨c18,c18,(za (zf 6)),(zb (zf 6)),(zs (zf 6)),0,[],.none,.none,.none,.none,none,.none,.none,0⟩),#[]⟩
noncomputable def oz34:Obj:=⟨c35,none,(.fields #[(.str c18 220),(.str c18 221),(.str c15 222),(.int 13 0),(.int 3 0),(.int 0 0),(.int 0 0),(.int 3 0),(.ref 29),(.bool true),(.int 181 0),(.ref 30),.none,(.ref 31),(.ref 32),(.ref 33),(.int 236 0),(.int 13 0),(.str c15 237)]),#[]⟩
noncomputable def oz35:Obj:=⟨c39,none,(.func ⟨c18,c18,(za (zf 6)),(zb (zf 6)),(zs (zf 6)),3,[],.none,.none,.none,c40,none,(.ref 34),.none,0⟩),#[]⟩
noncomputable def oz36:Obj:=c33
noncomputable def oz37:Obj:=c34
noncomputable def oz38:Obj:=⟨c9,none,(.seq #[(.str ⟨#[104]⟩ 242),(.str ⟨#[108]⟩ 243),(.str ⟨#[115]⟩ 244),(.str ⟨#[109,50]⟩ 245),(.str ⟨#[109,49]⟩ 246)] 0),#[]⟩
noncomputable def oz39:Obj:=c33
noncomputable def oz40:Obj:=⟨.none,none,(.func ⟨c19,c19,(za (zf 7)),(zb (zf 7)),(zs (zf 7)),0,[],.none,.none,.none,.none,none,.none,.none,0⟩),#[]⟩
noncomputable def oz41:Obj:=⟨c35,none,(.fields #[(.str c19 239),(.str c19 240),(.str c15 241),(.int 36 0),(.int 3 0),(.int 0 0),(.int 0 0),(.int 3 0),(.ref 36),(.bool true),(.int 181 0),(.ref 37),.none,(.ref 38),(.ref 39),(.ref 40),(.int 247 0),(.int 36 0),(.str c15 248)]),#[]⟩
noncomputable def oz42:Obj:=⟨c39,none,(.func ⟨c19,c19,(za (zf 7)),(zb (zf 7)),(zs (zf 7)),3,[],.none,.none,.none,c40,none,(.ref 41),.none,0⟩),#[]⟩
noncomputable def oz43:Obj:=c33
noncomputable def oz44:Obj:=c34
noncomputable def oz45:Obj:=⟨c9,none,(.seq #[(.str ⟨#[109,49]⟩ 253),(.str ⟨#[109,50]⟩ 254),(.str ⟨#[104,117,101]⟩ 255)] 0),#[]⟩
noncomputable def oz46:Obj:=c33
noncomputable def oz47:Obj:=⟨.none,none,(.func ⟨⟨#[95,118]⟩,⟨#[95,118]⟩,(za (zf 8)),(zb (zf 8)),(zs (zf 8)),0,[],.none,.none,.none,.none,none,.none,.none,0⟩),#[]⟩
noncomputable def oz48:Obj:=⟨c35,none,(.fields #[(.str ⟨#[95,118]⟩ 250),(.str ⟨#[95,118]⟩ 251),(.str c15 252),(.int 45 0),(.int 3 0),(.int 0 0),(.int 0 0),(.int 3 0),(.ref 43),(.bool true),(.int 181 0),(.ref 44),.none,(.ref 45),(.ref 46),(.ref 47),(.int 256 0),(.int 45 0),(.str c15 257)]),#[]⟩
noncomputable def oz49:Obj:=⟨c39,none,(.func ⟨⟨#[95,118]⟩,⟨#[95,118]⟩,(za (zf 8)),(zb (zf 8)),(zs (zf 8)),3,[],.none,.none,.none,c40,none,(.ref 48),.none,0⟩),#[]⟩
noncomputable def oz57:Obj:=c33
noncomputable def oz58:Obj:=c34
noncomputable def c41:Str:=⟨#[115,101,108,102]⟩
noncomputable def c42:Str:=⟨#[115,112,108,105,116,99,104,97,114,115]⟩
noncomputable def oz59:Obj:=⟨c9,none,(.seq #[(.str c41 280),(.str ⟨#[104,101,97,100,101,114,108,101,110]⟩ 281),(.str ⟨#[109,97,120,108,101,110]⟩ 282),(.str ⟨#[99,111,110,116,105,110,117,97,116,105,111,110,95,119,115]⟩ 283),(.str c42 284)] 0),#[]⟩
noncomputable def oz60:Obj:=c33
noncomputable def c43:Str:=⟨#[95,95,105,110,105,116,95,95]⟩
noncomputable def c44:Str:=⟨#[95,86,97,108,117,101,70,111,114,109,97,116,116,101,114,46,95,95,105,110,105,116,95,95]⟩
noncomputable def oz61:Obj:=⟨.none,none,(.func ⟨c43,c44,(za (zm 12 0)),(zb (zm 12 0)),(zs (zm 12 0)),0,[],.none,.none,.none,.none,none,.none,.none,0⟩),#[]⟩
noncomputable def oz62:Obj:=⟨c35,none,(.fields #[(.str c43 277),(.str c44 278),(.str c15 279),(.int 59 0),(.int 5 0),(.int 0 0),(.int 0 0),(.int 3 0),(.ref 57),(.bool true),(.int 181 0),(.ref 58),.none,(.ref 59),(.ref 60),(.ref 61),(.int 285 0),(.int 59 0),(.str c15 286)]),#[]⟩
noncomputable def c45:Value:=(.str ⟨#[99,112,121,51,49,51,46,101,109,97,105,108,46,104,101,97,100,101,114]⟩ 259)
noncomputable def oz63:Obj:=⟨c39,none,(.func ⟨c43,c44,(za (zm 12 0)),(zb (zm 12 0)),(zs (zm 12 0)),3,[],.none,.none,.none,c45,none,(.ref 62),.none,0⟩),#[]⟩
noncomputable def oz64:Obj:=c33
noncomputable def oz65:Obj:=c34
noncomputable def oz66:Obj:=⟨c9,none,(.seq #[(.str c41 291),(.str ⟨#[108,105,110,101,115,101,112]⟩ 292)] 0),#[]⟩
noncomputable def oz67:Obj:=c33
noncomputable def c46:Str:=⟨#[95,115,116,114]⟩
noncomputable def c47:Str:=⟨#[95,86,97,108,117,101,70,111,114,109,97,116,116,101,114,46,95,115,116,114]⟩
noncomputable def c48:Str:=⟨#[110,101,119,108,105,110,101]⟩
noncomputable def oz68:Obj:=⟨.none,none,(.func ⟨c46,c47,(za (zm 12 1)),(zb (zm 12 1)),(zs (zm 12 1)),0,[],.none,.none,.none,.none,none,.none,.none,0⟩),#[]⟩
noncomputable def oz69:Obj:=⟨c35,none,(.fields #[(.str c46 288),(.str c47 289),(.str c15 290),(.int 67 0),(.int 2 0),(.int 0 0),(.int 0 0),(.int 3 0),(.ref 64),(.bool true),(.int 181 0),(.ref 65),.none,(.ref 66),(.ref 67),(.ref 68),(.int 293 0),(.int 67 0),(.str c15 294)]),#[]⟩
noncomputable def oz70:Obj:=⟨c39,none,(.func ⟨c46,c47,(za (zm 12 1)),(zb (zm 12 1)),(zs (zm 12 1)),3,[],.none,.none,.none,c45,none,(.ref 69),.none,0⟩),#[]⟩
noncomputable def oz71:Obj:=c33
noncomputable def oz72:Obj:=c34
noncomputable def oz73:Obj:=⟨c9,none,(.seq #[(.str c41 299)] 0),#[]⟩
noncomputable def oz74:Obj:=c33
noncomputable def c49:Str:=⟨#[95,95,115,116,114,95,95]⟩
noncomputable def c50:Str:=⟨#[95,86,97,108,117,101,70,111,114,109,97,116,116,101,114,46,95,95,115,116,114,95,95]⟩
noncomputable def oz75:Obj:=⟨.none,none,(.func ⟨c49,c50,(za (zm 12 2)),(zb (zm 12 2)),(zs (zm 12 2)),0,[],.none,.none,.none,.none,none,.none,.none,0⟩),#[]⟩
noncomputable def oz76:Obj:=⟨c35,none,(.fields #[(.str c49 296),(.str c50 297),(.str c15 298),(.int 71 0),(.int 1 0),(.int 0 0),(.int 0 0),(.int 3 0),(.ref 71),(.bool true),(.int 181 0),(.ref 72),.none,(.ref 73),(.ref 74),(.ref 75),(.int 300 0),(.int 71 0),(.str c15 301)]),#[]⟩
noncomputable def oz77:Obj:=⟨c39,none,(.func ⟨c49,c50,(za (zm 12 2)),(zb (zm 12 2)),(zs (zm 12 2)),3,[],.none,.none,.none,c45,none,(.ref 76),.none,0⟩),#[]⟩
noncomputable def oz78:Obj:=c33
noncomputable def oz79:Obj:=c34
noncomputable def oz80:Obj:=⟨c9,none,(.seq #[(.str c41 306),(.str ⟨#[101,110,100,95,111,102,95,108,105,110,101]⟩ 307)] 0),#[]⟩
noncomputable def oz81:Obj:=c33
noncomputable def c51:Str:=⟨#[95,86,97,108,117,101,70,111,114,109,97,116,116,101,114,46,110,101,119,108,105,110,101]⟩
noncomputable def c52:Str:=⟨#[112,111,112]⟩
noncomputable def c53:Str:=⟨#[112,117,115,104]⟩
noncomputable def c54:Str:=⟨#[105,115,95,111,110,108,121,119,115]⟩
noncomputable def c55:Str:=⟨#[114,101,115,101,116]⟩
noncomputable def oz82:Obj:=⟨.none,none,(.func ⟨c48,c51,(za (zm 12 3)),(zb (zm 12 3)),(zs (zm 12 3)),0,[],.none,.none,.none,.none,none,.none,.none,0⟩),#[]⟩
noncomputable def oz83:Obj:=⟨c35,none,(.fields #[(.str c48 303),(.str c51 304),(.str c15 305),(.int 74 0),(.int 1 0),(.int 0 0),(.int 0 0),(.int 3 0),(.ref 78),(.bool true),(.int 181 0),(.ref 79),.none,(.ref 80),(.ref 81),(.ref 82),(.int 308 0),(.int 74 0),(.str c15 309)]),#[]⟩
noncomputable def oz84:Obj:=⟨c39,none,(.func ⟨c48,c51,(za (zm 12 3)),(zb (zm 12 3)),(zs (zm 12 3)),3,[],.none,.none,.none,c45,none,(.ref 83),.none,0⟩),#[]⟩
noncomputable def oz85:Obj:=c33
noncomputable def oz86:Obj:=c34
noncomputable def oz87:Obj:=⟨c9,none,(.seq #[(.str c41 314)] 0),#[]⟩
noncomputable def oz88:Obj:=c33
noncomputable def c56:Str:=⟨#[97,100,100,95,116,114,97,110,115,105,116,105,111,110]⟩
noncomputable def c57:Str:=⟨#[95,86,97,108,117,101,70,111,114,109,97,116,116,101,114,46,97,100,100,95,116,114,97,110,115,105,116,105,111,110]⟩
noncomputable def oz89:Obj:=⟨.none,none,(.func ⟨c56,c57,(za (zm 12 4)),(zb (zm 12 4)),(zs (zm 12 4)),0,[],.none,.none,.none,.none,none,.none,.none,0⟩),#[]⟩
noncomputable def oz90:Obj:=⟨c35,none,(.fields #[(.str c56 311),(.str c57 312),(.str c15 313),(.int 85 0),(.int 1 0),(.int 0 0),(.int 0 0),(.int 3 0),(.ref 85),(.bool true),(.int 181 0),(.ref 86),.none,(.ref 87),(.ref 88),(.ref 89),(.int 315 0),(.int 85 0),(.str c15 316)]),#[]⟩
noncomputable def oz91:Obj:=⟨c39,none,(.func ⟨c56,c57,(za (zm 12 4)),(zb (zm 12 4)),(zs (zm 12 4)),3,[],.none,.none,.none,c45,none,(.ref 90),.none,0⟩),#[]⟩
noncomputable def oz92:Obj:=c33
noncomputable def oz93:Obj:=c34
noncomputable def c58:Str:=⟨#[102,119,115]⟩
noncomputable def c59:Str:=⟨#[115,116,114,105,110,103]⟩
noncomputable def oz94:Obj:=⟨c9,none,(.seq #[(.str c41 321),(.str c58 322),(.str c59 323),(.str ⟨#[99,104,97,114,115,101,116]⟩ 324)] 0),#[]⟩
noncomputable def oz95:Obj:=c33
noncomputable def c60:Str:=⟨#[102,101,101,100]⟩
noncomputable def c61:Str:=⟨#[95,86,97,108,117,101,70,111,114,109,97,116,116,101,114,46,102,101,101,100]⟩
noncomputable def oz96:Obj:=⟨.none,none,(.func ⟨c60,c61,(za (zm 12 5)),(zb (zm 12 5)),(zs (zm 12 5)),0,[],.none,.none,.none,.none,none,.none,.none,0⟩),#[]⟩
noncomputable def oz97:Obj:=⟨c35,none,(.fields #[(.str c60 318),(.str c61 319),(.str c15 320),(.int 88 0),(.int 4 0),(.int 0 0),(.int 0 0),(.int 3 0),(.ref 92),(.bool true),(.int 181 0),(.ref 93),.none,(.ref 94),(.ref 95),(.ref 96),(.int 325 0),(.int 88 0),(.str c15 326)]),#[]⟩
noncomputable def oz98:Obj:=⟨c39,none,(.func ⟨c60,c61,(za (zm 12 5)),(zb (zm 12 5)),(zs (zm 12 5)),3,[],.none,.none,.none,c45,none,(.ref 97),.none,0⟩),#[]⟩
noncomputable def oz99:Obj:=c33
noncomputable def oz100:Obj:=c34
noncomputable def oz101:Obj:=⟨c9,none,(.seq #[(.str c41 331)] 0),#[]⟩
noncomputable def oz102:Obj:=c33
noncomputable def c62:Str:=⟨#[95,109,97,120,108,101,110,103,116,104,115]⟩
noncomputable def c63:Str:=⟨#[95,86,97,108,117,101,70,111,114,109,97,116,116,101,114,46,95,109,97,120,108,101,110,103,116,104,115]⟩
noncomputable def oz103:Obj:=⟨.none,none,(.func ⟨c62,c63,(za (zm 12 6)),(zb (zm 12 6)),(zs (zm 12 6)),0,[],.none,.none,.none,.none,none,.none,.none,0⟩),#[]⟩
noncomputable def oz104:Obj:=⟨c35,none,(.fields #[(.str c62 328),(.str c63 329),(.str c15 330),(.int 91 0),(.int 1 0),(.int 0 0),(.int 0 0),(.int 3 0),(.ref 99),(.bool true),(.int 181 0),(.ref 100),.none,(.ref 101),(.ref 102),(.ref 103),(.int 332 0),(.int 91 0),(.str c15 333)]),#[]⟩
noncomputable def oz105:Obj:=⟨c39,none,(.func ⟨c62,c63,(za (zm 12 6)),(zb (zm 12 6)),(zs (zm 12 6)),3,[],.none,.none,.none,c45,none,(.ref 104),.none,0⟩),#[]⟩
noncomputable def oz106:Obj:=c33
noncomputable def oz107:Obj:=c34
noncomputable def oz108:Obj:=⟨c9,none,(.seq #[(.str c41 338),(.str c58 339),(.str c59 340),(.str c42 341)] 0),#[]⟩
noncomputable def oz109:Obj:=c33
noncomputable def c64:Str:=⟨#[95,97,115,99,105,105,95,115,112,108,105,116]⟩
noncomputable def c65:Str:=⟨#[95,86,97,108,117,101,70,111,114,109,97,116,116,101,114,46,95,97,115,99,105,105,95,115,112,108,105,116]⟩
noncomputable def oz110:Obj:=⟨.none,none,(.func ⟨c64,c65,(za (zm 12 7)),(zb (zm 12 7)),(zs (zm 12 7)),0,[],.none,.none,.none,.none,none,.none,.none,0⟩),#[]⟩
noncomputable def oz111:Obj:=⟨c35,none,(.fields #[(.str c64 335),(.str c65 336),(.str c15 337),(.int 94 0),(.int 4 0),(.int 0 0),(.int 0 0),(.int 3 0),(.ref 106),(.bool true),(.int 181 0),(.ref 107),.none,(.ref 108),(.ref 109),(.ref 110),(.int 342 0),(.int 94 0),(.str c15 343)]),#[]⟩
noncomputable def oz112:Obj:=⟨c39,none,(.func ⟨c64,c65,(za (zm 12 7)),(zb (zm 12 7)),(zs (zm 12 7)),3,[],.none,.none,.none,c45,none,(.ref 111),.none,0⟩),#[]⟩
noncomputable def oz113:Obj:=c33
noncomputable def oz114:Obj:=c34
noncomputable def oz115:Obj:=⟨c9,none,(.seq #[(.str c41 348),(.str c58 349),(.str c59 350)] 0),#[]⟩
noncomputable def oz116:Obj:=c33
noncomputable def c66:Str:=⟨#[95,97,112,112,101,110,100,95,99,104,117,110,107]⟩
noncomputable def c67:Str:=⟨#[95,86,97,108,117,101,70,111,114,109,97,116,116,101,114,46,95,97,112,112,101,110,100,95,99,104,117,110,107]⟩
noncomputable def oz117:Obj:=⟨.none,none,(.func ⟨c66,c67,(za (zm 12 8)),(zb (zm 12 8)),(zs (zm 12 8)),0,[],.none,.none,.none,.none,none,.none,.none,0⟩),#[]⟩
noncomputable def oz118:Obj:=⟨c35,none,(.fields #[(.str c66 345),(.str c67 346),(.str c15 347),(.int 97 0),(.int 3 0),(.int 0 0),(.int 0 0),(.int 3 0),(.ref 113),(.bool true),(.int 181 0),(.ref 114),.none,(.ref 115),(.ref 116),(.ref 117),(.int 351 0),(.int 97 0),(.str c15 352)]),#[]⟩
noncomputable def oz119:Obj:=⟨c39,none,(.func ⟨c66,c67,(za (zm 12 8)),(zb (zm 12 8)),(zs (zm 12 8)),3,[],.none,.none,.none,c45,none,(.ref 118),.none,0⟩),#[]⟩
noncomputable def oz120:Obj:=⟨c9,none,(.seq #[(.str ⟨#[95,99,111,110,116,105,110,117,97,116,105,111,110,95,119,115]⟩ 354),(.str ⟨#[95,99,111,110,116,105,110,117,97,116,105,111,110,95,119,115,95,108,101,110]⟩ 355),(.str ⟨#[95,99,117,114,114,101,110,116,95,108,105,110,101]⟩ 356),(.str ⟨#[95,108,105,110,101,115]⟩ 357),(.str ⟨#[95,109,97,120,108,101,110]⟩ 358),(.str ⟨#[95,115,112,108,105,116,99,104,97,114,115]⟩ 359)] 0),#[]⟩
noncomputable def c68:Str:=⟨#[95,95,109,111,100,117,108,101,95,95]⟩
noncomputable def c69:Str:=⟨#[95,95,102,105,114,115,116,108,105,110,101,110,111,95,95]⟩
noncomputable def c70:Str:=⟨#[95,95,115,116,97,116,105,99,95,97,116,116,114,105,98,117,116,101,115,95,95]⟩
noncomputable def c71:Str:=⟨#[95,95,100,105,99,116,95,95]⟩
noncomputable def c72:Str:=⟨#[95,95,119,101,97,107,114,101,102,95,95]⟩
noncomputable def oz121 (P:Params):Obj:=⟨c0,none,(.dict #[(ze P c68 272 c45),(ze P c69 276 (.int 57 275)),(ze P c43 287 (.ref 63)),(ze P c46 295 (.ref 70)),(ze P c49 302 (.ref 77)),(ze P c48 310 (.ref 84)),(ze P c56 317 (.ref 91)),(ze P c60 327 (.ref 98)),(ze P c62 334 (.ref 105)),(ze P c64 344 (.ref 112)),(ze P c66 353 (.ref 119)),(ze P c70 360 (.ref 120)),(ze P c71 362 (.ref 123)),(ze P c72 364 (.ref 124)),(ze P c3 365 .none)] 4),#[]⟩
noncomputable def oz122:Obj:=⟨c10,none,(.cls ⟨c20,[c8],[(.ref 122),c8],121,c20,true,[],[],false,none,false⟩),#[none,none,(some (.str c20 265)),(some (.str c20 273)),(some (.builtin SZ.s11443829558043349243x14)),(some (.bool true))]⟩
noncomputable def c73:Value:=(.type SZ.s14755015743595814543x17)
noncomputable def c74:Value:=(.builtin SZ.s6511155373996960695x17)
noncomputable def c75:Value:=(.builtin SZ.s12411053484034534018x21)
noncomputable def oz123:Obj:=⟨c73,none,(.fields #[(.str c71 361),(.ref 122),c74,c75]),#[]⟩
noncomputable def c76:Value:=(.builtin SZ.s10220274742760427390x26)
noncomputable def oz124:Obj:=⟨c73,none,(.fields #[(.str c72 363),(.ref 122),c76,.none]),#[]⟩
noncomputable def oz127:Obj:=⟨c9,none,(.seq #[c7] 0),#[]⟩
noncomputable def oz130:Obj:=⟨(.type SZ.s15660640913423913556x4),none,(.cell (some (.ref 206))),#[]⟩
noncomputable def oz135:Obj:=⟨c9,none,(.seq #[(.int 0 380)] 0),#[]⟩
noncomputable def c77:Obj:=⟨c9,none,(.seq #[(.ref 130)] 0),#[]⟩
noncomputable def oz136:Obj:=c77
noncomputable def c78:Str:=⟨#[95,95,99,108,97,115,115,95,95]⟩
noncomputable def oz137:Obj:=⟨c9,none,(.seq #[(.str c78 384)] 0),#[]⟩
noncomputable def oz138:Obj:=c34
noncomputable def oz139:Obj:=⟨c9,none,(.seq #[(.str c41 385),(.str ⟨#[105,110,105,116,105,97,108,95,115,105,122,101]⟩ 386)] 0),#[]⟩
noncomputable def oz140:Obj:=c33
noncomputable def c79:Str:=⟨#[95,65,99,99,117,109,117,108,97,116,111,114,46,95,95,105,110,105,116,95,95]⟩
noncomputable def oz141:Obj:=⟨.none,none,(.func ⟨c43,c79,(za (zm 13 0)),(zb (zm 13 0)),(zs (zm 13 0)),0,[],.none,.none,.none,.none,none,.none,.none,0⟩),#[]⟩
noncomputable def oz142:Obj:=⟨c35,none,(.fields #[(.str c43 381),(.str c79 382),(.str c15 383),(.int 101 0),(.int 2 0),(.int 0 0),(.int 0 0),(.int 3 0),(.ref 137),(.bool true),(.int 181 0),(.ref 138),.none,(.ref 139),(.ref 140),(.ref 141),(.int 387 0),(.int 101 0),(.str c15 388)]),#[]⟩
noncomputable def oz143:Obj:=⟨c39,none,(.func ⟨c43,c79,(za (zm 13 0)),(zb (zm 13 0)),(zs (zm 13 0)),3,[(c78,130)],(.ref 135),.none,.none,c45,none,(.ref 142),(.ref 136),0⟩),#[]⟩
noncomputable def oz144:Obj:=c33
noncomputable def oz145:Obj:=c34
noncomputable def oz146:Obj:=⟨c9,none,(.seq #[(.str c41 393),(.str c58 394),(.str c59 395)] 0),#[]⟩
noncomputable def oz147:Obj:=c33
noncomputable def c80:Str:=⟨#[95,65,99,99,117,109,117,108,97,116,111,114,46,112,117,115,104]⟩
noncomputable def oz148:Obj:=⟨.none,none,(.func ⟨c53,c80,(za (zm 13 1)),(zb (zm 13 1)),(zs (zm 13 1)),0,[],.none,.none,.none,.none,none,.none,.none,0⟩),#[]⟩
noncomputable def oz149:Obj:=⟨c35,none,(.fields #[(.str c53 390),(.str c80 391),(.str c15 392),(.int 105 0),(.int 3 0),(.int 0 0),(.int 0 0),(.int 3 0),(.ref 144),(.bool true),(.int 181 0),(.ref 145),.none,(.ref 146),(.ref 147),(.ref 148),(.int 396 0),(.int 105 0),(.str c15 397)]),#[]⟩
noncomputable def oz150:Obj:=⟨c39,none,(.func ⟨c53,c80,(za (zm 13 1)),(zb (zm 13 1)),(zs (zm 13 1)),3,[],.none,.none,.none,c45,none,(.ref 149),.none,0⟩),#[]⟩
noncomputable def oz151:Obj:=⟨c9,none,(.seq #[(.int 0 399)] 0),#[]⟩
noncomputable def oz152:Obj:=c33
noncomputable def oz153:Obj:=c34
noncomputable def oz154:Obj:=⟨c9,none,(.seq #[(.str c41 403),(.str ⟨#[105]⟩ 404),(.str ⟨#[112,111,112,112,101,100]⟩ 405)] 0),#[]⟩
noncomputable def oz155:Obj:=c33
noncomputable def c81:Str:=⟨#[112,111,112,95,102,114,111,109]⟩
noncomputable def c82:Str:=⟨#[95,65,99,99,117,109,117,108,97,116,111,114,46,112,111,112,95,102,114,111,109]⟩
noncomputable def oz156:Obj:=⟨.none,none,(.func ⟨c81,c82,(za (zm 13 2)),(zb (zm 13 2)),(zs (zm 13 2)),0,[],.none,.none,.none,.none,none,.none,.none,0⟩),#[]⟩
noncomputable def oz157:Obj:=⟨c35,none,(.fields #[(.str c81 400),(.str c82 401),(.str c15 402),(.int 108 0),(.int 2 0),(.int 0 0),(.int 0 0),(.int 3 0),(.ref 152),(.bool true),(.int 181 0),(.ref 153),.none,(.ref 154),(.ref 155),(.ref 156),(.int 406 0),(.int 108 0),(.str c15 407)]),#[]⟩
noncomputable def oz158:Obj:=⟨c39,none,(.func ⟨c81,c82,(za (zm 13 2)),(zb (zm 13 2)),(zs (zm 13 2)),3,[],(.ref 151),.none,.none,c45,none,(.ref 157),.none,0⟩),#[]⟩
noncomputable def oz159:Obj:=c77
noncomputable def oz160:Obj:=⟨c9,none,(.seq #[(.str c78 412)] 0),#[]⟩
noncomputable def oz161:Obj:=c34
noncomputable def oz162:Obj:=⟨c9,none,(.seq #[(.str c41 413)] 0),#[]⟩
noncomputable def oz163:Obj:=c33
noncomputable def c83:Str:=⟨#[95,65,99,99,117,109,117,108,97,116,111,114,46,112,111,112]⟩
noncomputable def c84:Str:=⟨#[112,97,114,116,95,99,111,117,110,116]⟩
noncomputable def oz164:Obj:=⟨.none,none,(.func ⟨c52,c83,(za (zm 13 3)),(zb (zm 13 3)),(zs (zm 13 3)),0,[],.none,.none,.none,.none,none,.none,.none,0⟩),#[]⟩
noncomputable def oz165:Obj:=⟨c35,none,(.fields #[(.str c52 409),(.str c83 410),(.str c15 411),(.int 113 0),(.int 1 0),(.int 0 0),(.int 0 0),(.int 3 0),(.ref 160),(.bool true),(.int 181 0),(.ref 161),.none,(.ref 162),(.ref 163),(.ref 164),(.int 414 0),(.int 113 0),(.str c15 415)]),#[]⟩
noncomputable def oz166:Obj:=⟨c39,none,(.func ⟨c52,c83,(za (zm 13 3)),(zb (zm 13 3)),(zs (zm 13 3)),3,[(c78,130)],.none,.none,.none,c45,none,(.ref 165),(.ref 159),0⟩),#[]⟩
noncomputable def oz167:Obj:=c33
noncomputable def oz168:Obj:=c34
noncomputable def oz169:Obj:=⟨c9,none,(.seq #[(.str c41 420)] 0),#[]⟩
noncomputable def oz170:Obj:=c33
noncomputable def c85:Str:=⟨#[95,95,108,101,110,95,95]⟩
noncomputable def c86:Str:=⟨#[95,65,99,99,117,109,117,108,97,116,111,114,46,95,95,108,101,110,95,95]⟩
noncomputable def oz171:Obj:=⟨.none,none,(.func ⟨c85,c86,(za (zm 13 4)),(zb (zm 13 4)),(zs (zm 13 4)),0,[],.none,.none,.none,.none,none,.none,.none,0⟩),#[]⟩
noncomputable def oz172:Obj:=⟨c35,none,(.fields #[(.str c85 417),(.str c86 418),(.str c15 419),(.int 118 0),(.int 1 0),(.int 0 0),(.int 0 0),(.int 3 0),(.ref 167),(.bool true),(.int 181 0),(.ref 168),.none,(.ref 169),(.ref 170),(.ref 171),(.int 421 0),(.int 118 0),(.str c15 422)]),#[]⟩
noncomputable def oz173:Obj:=⟨c39,none,(.func ⟨c85,c86,(za (zm 13 4)),(zb (zm 13 4)),(zs (zm 13 4)),3,[],.none,.none,.none,c45,none,(.ref 172),.none,0⟩),#[]⟩
noncomputable def oz174:Obj:=c33
noncomputable def oz175:Obj:=c34
noncomputable def oz176:Obj:=⟨c9,none,(.seq #[(.str c41 427)] 0),#[]⟩
noncomputable def oz177:Obj:=c33
noncomputable def c87:Str:=⟨#[95,65,99,99,117,109,117,108,97,116,111,114,46,95,95,115,116,114,95,95]⟩
noncomputable def oz178:Obj:=⟨.none,none,(.func ⟨c49,c87,(za (zm 13 5)),(zb (zm 13 5)),(zs (zm 13 5)),0,[],.none,.none,.none,.none,none,.none,.none,0⟩),#[]⟩
noncomputable def oz179:Obj:=⟨c35,none,(.fields #[(.str c49 424),(.str c87 425),(.str c15 426),(.int 121 0),(.int 1 0),(.int 0 0),(.int 0 0),(.int 3 0),(.ref 174),(.bool true),(.int 181 0),(.ref 175),.none,(.ref 176),(.ref 177),(.ref 178),(.int 428 0),(.int 121 0),(.str c15 429)]),#[]⟩
noncomputable def oz180:Obj:=⟨c39,none,(.func ⟨c49,c87,(za (zm 13 5)),(zb (zm 13 5)),(zs (zm 13 5)),3,[],.none,.none,.none,c45,none,(.ref 179),.none,0⟩),#[]⟩
noncomputable def oz181:Obj:=⟨c9,none,(.seq #[.none] 0),#[]⟩
noncomputable def oz182:Obj:=c33
noncomputable def oz183:Obj:=c34
noncomputable def oz184:Obj:=⟨c9,none,(.seq #[(.str c41 434),(.str ⟨#[115,116,97,114,116,118,97,108]⟩ 435)] 0),#[]⟩
noncomputable def oz185:Obj:=c33
noncomputable def c88:Str:=⟨#[95,65,99,99,117,109,117,108,97,116,111,114,46,114,101,115,101,116]⟩
noncomputable def oz186:Obj:=⟨.none,none,(.func ⟨c55,c88,(za (zm 13 6)),(zb (zm 13 6)),(zs (zm 13 6)),0,[],.none,.none,.none,.none,none,.none,.none,0⟩),#[]⟩
noncomputable def oz187:Obj:=⟨c35,none,(.fields #[(.str c55 431),(.str c88 432),(.str c15 433),(.int 124 0),(.int 2 0),(.int 0 0),(.int 0 0),(.int 3 0),(.ref 182),(.bool true),(.int 181 0),(.ref 183),.none,(.ref 184),(.ref 185),(.ref 186),(.int 436 0),(.int 124 0),(.str c15 437)]),#[]⟩
noncomputable def oz188:Obj:=⟨c39,none,(.func ⟨c55,c88,(za (zm 13 6)),(zb (zm 13 6)),(zs (zm 13 6)),3,[],(.ref 181),.none,.none,c45,none,(.ref 187),.none,0⟩),#[]⟩
noncomputable def oz189:Obj:=c33
noncomputable def oz190:Obj:=c34
noncomputable def oz191:Obj:=⟨c9,none,(.seq #[(.str c41 442)] 0),#[]⟩
noncomputable def oz192:Obj:=c33
noncomputable def c89:Str:=⟨#[95,65,99,99,117,109,117,108,97,116,111,114,46,105,115,95,111,110,108,121,119,115]⟩
noncomputable def oz193:Obj:=⟨.none,none,(.func ⟨c54,c89,(za (zm 13 7)),(zb (zm 13 7)),(zs (zm 13 7)),0,[],.none,.none,.none,.none,none,.none,.none,0⟩),#[]⟩
noncomputable def oz194:Obj:=⟨c35,none,(.fields #[(.str c54 439),(.str c89 440),(.str c15 441),(.int 130 0),(.int 1 0),(.int 0 0),(.int 0 0),(.int 3 0),(.ref 189),(.bool true),(.int 181 0),(.ref 190),.none,(.ref 191),(.ref 192),(.ref 193),(.int 443 0),(.int 130 0),(.str c15 444)]),#[]⟩
noncomputable def oz195:Obj:=⟨c39,none,(.func ⟨c54,c89,(za (zm 13 7)),(zb (zm 13 7)),(zs (zm 13 7)),3,[],.none,.none,.none,c45,none,(.ref 194),.none,0⟩),#[]⟩
noncomputable def oz196:Obj:=c77
noncomputable def oz197:Obj:=⟨c9,none,(.seq #[(.str c78 449)] 0),#[]⟩
noncomputable def oz198:Obj:=c34
noncomputable def oz199:Obj:=⟨c9,none,(.seq #[(.str c41 450)] 0),#[]⟩
noncomputable def oz200:Obj:=c33
noncomputable def c90:Str:=⟨#[95,65,99,99,117,109,117,108,97,116,111,114,46,112,97,114,116,95,99,111,117,110,116]⟩
noncomputable def oz201:Obj:=⟨.none,none,(.func ⟨c84,c90,(za (zm 13 8)),(zb (zm 13 8)),(zs (zm 13 8)),0,[],.none,.none,.none,.none,none,.none,.none,0⟩),#[]⟩
noncomputable def oz202:Obj:=⟨c35,none,(.fields #[(.str c84 446),(.str c90 447),(.str c15 448),(.int 133 0),(.int 1 0),(.int 0 0),(.int 0 0),(.int 3 0),(.ref 197),(.bool true),(.int 181 0),(.ref 198),.none,(.ref 199),(.ref 200),(.ref 201),(.int 451 0),(.int 133 0),(.str c15 452)]),#[]⟩
noncomputable def oz203:Obj:=⟨c39,none,(.func ⟨c84,c90,(za (zm 13 8)),(zb (zm 13 8)),(zs (zm 13 8)),3,[(c78,130)],.none,.none,.none,c45,none,(.ref 202),(.ref 196),0⟩),#[]⟩
noncomputable def oz204:Obj:=⟨c9,none,(.seq #[(.str ⟨#[95,105,110,105,116,105,97,108,95,115,105,122,101]⟩ 454)] 0),#[]⟩
noncomputable def oz205 (P:Params):Obj:=⟨c0,none,(.dict #[(ze P c68 375 c45),(ze P c69 379 (.int 99 378)),(ze P c43 389 (.ref 143)),(ze P c53 398 (.ref 150)),(ze P c81 408 (.ref 158)),(ze P c52 416 (.ref 166)),(ze P c85 423 (.ref 173)),(ze P c49 430 (.ref 180)),(ze P c55 438 (.ref 188)),(ze P c54 445 (.ref 195)),(ze P c84 453 (.ref 203)),(ze P c70 455 (.ref 204)),(ze P c71 458 (.ref 207)),(ze P c72 460 (.ref 208)),(ze P c3 461 .none)] 5),#[]⟩
noncomputable def oz206:Obj:=⟨c10,none,(.cls ⟨c21,[c7],[(.ref 206),c7,c8],205,c21,true,[],[],false,none,false⟩),#[(some (.ref 127)),none,(some (.str c21 368)),(some (.str c21 376)),(some (.builtin SZ.s896114127876100448x12)),(some (.bool true))]⟩
noncomputable def oz207:Obj:=⟨c73,none,(.fields #[(.str c71 457),(.ref 206),c74,c75]),#[]⟩
noncomputable def oz208:Obj:=⟨c73,none,(.fields #[(.str c72 459),(.ref 206),c76,.none]),#[]⟩
noncomputable def c91 (P:Params):List DictEntry:=[(ze P ⟨#[33]⟩ 564 (.int 54 562)),(ze P ⟨#[33,61]⟩ 566 (.int 28 510)),(ze P ⟨#[37]⟩ 568 (.int 24 502)),(ze P ⟨#[37,61]⟩ 570 (.int 40 534)),(ze P ⟨#[38]⟩ 572 (.int 19 492)),(ze P ⟨#[38,61]⟩ 574 (.int 41 536)),(ze P ⟨#[40]⟩ 576 (.int 7 468)),(ze P ⟨#[41]⟩ 578 (.int 8 470)),(ze P ⟨#[42]⟩ 580 (.int 16 486)),(ze P ⟨#[42,42]⟩ 582 (.int 35 524)),(ze P ⟨#[42,42,61]⟩ 584 (.int 46 546)),(ze P ⟨#[42,61]⟩ 586 (.int 38 530)),(ze P ⟨#[43]⟩ 588 (.int 14 482)),(ze P ⟨#[43,61]⟩ 590 (.int 36 526)),(ze P ⟨#[44]⟩ 592 (.int 12 478)),(ze P ⟨#[45]⟩ 594 (.int 15 484)),(ze P ⟨#[45,61]⟩ 596 (.int 37 528)),(ze P ⟨#[45,62]⟩ 598 (.int 51 556)),(ze P ⟨#[46]⟩ 600 (.int 23 500)),(ze P ⟨#[46,46,46]⟩ 602 (.int 52 558)),(ze P ⟨#[47]⟩ 604 (.int 17 488)),(ze P ⟨#[47,47]⟩ 606 (.int 47 548)),(ze P ⟨#[47,47,61]⟩ 608 (.int 48 550)),(ze P ⟨#[47,61]⟩ 610 (.int 39 532)),(ze P ⟨#[58]⟩ 612 (.int 11 476)),(ze P ⟨#[58,61]⟩ 614 (.int 53 560)),(ze P ⟨#[59]⟩ 616 (.int 13 480)),(ze P ⟨#[60]⟩ 618 (.int 20 494)),(ze P ⟨#[60,60]⟩ 620 (.int 33 520)),(ze P ⟨#[60,60,61]⟩ 622 (.int 44 542)),(ze P ⟨#[60,61]⟩ 624 (.int 29 512)),(ze P ⟨#[61]⟩ 626 (.int 22 498)),(ze P ⟨#[61,61]⟩ 628 (.int 27 508)),(ze P ⟨#[62]⟩ 630 (.int 21 496)),(ze P ⟨#[62,61]⟩ 632 (.int 30 514)),(ze P ⟨#[62,62]⟩ 633 (.int 34 522)),(ze P ⟨#[62,62,61]⟩ 634 (.int 45 544)),(ze P ⟨#[64]⟩ 635 (.int 49 552)),(ze P ⟨#[64,61]⟩ 636 (.int 50 554)),(ze P ⟨#[91]⟩ 637 (.int 9 472)),(ze P ⟨#[93]⟩ 638 (.int 10 474)),(ze P ⟨#[94]⟩ 639 (.int 32 518)),(ze P ⟨#[94,61]⟩ 640 (.int 43 540)),(ze P ⟨#[123]⟩ 641 (.int 25 504)),(ze P ⟨#[124]⟩ 642 (.int 18 490)),(ze P ⟨#[124,61]⟩ 643 (.int 42 538)),(ze P ⟨#[125]⟩ 644 (.int 26 506)),(ze P ⟨#[126]⟩ 645 (.int 31 516))]
noncomputable def oz211 (P:Params):Obj:=⟨c0,none,(.dict ⟨(c91 P)⟩ 48),#[]⟩
noncomputable def oz214:Obj:=c33
noncomputable def oz215:Obj:=c34
noncomputable def oz216:Obj:=⟨c9,none,(.seq #[(.str ⟨#[120]⟩ 664)] 0),#[]⟩
noncomputable def oz217:Obj:=c33
noncomputable def oz218:Obj:=⟨.none,none,(.func ⟨c22,c22,(za (zf 65)),(zb (zf 65)),(zs (zf 65)),0,[],.none,.none,.none,.none,none,.none,.none,0⟩),#[]⟩
noncomputable def oz219:Obj:=⟨c35,none,(.fields #[(.str c22 661),(.str c22 662),(.str c15 663),(.int 186 0),(.int 1 0),(.int 0 0),(.int 0 0),(.int 3 0),(.ref 214),(.bool true),(.int 181 0),(.ref 215),.none,(.ref 216),(.ref 217),(.ref 218),(.int 665 0),(.int 186 0),(.str c15 666)]),#[]⟩
noncomputable def oz220:Obj:=⟨c39,none,(.func ⟨c22,c22,(za (zf 65)),(zb (zf 65)),(zs (zf 65)),3,[],.none,.none,.none,(.str ⟨#[99,112,121,51,49,51,46,116,111,107,101,110]⟩ 464),none,(.ref 219),.none,0⟩),#[]⟩
noncomputable def oz221:Obj:=c33
noncomputable def oz222:Obj:=c34
noncomputable def oz223:Obj:=⟨.none,none,(.func ⟨c23,c23,(za (zf 67)),(zb (zf 67)),(zs (zf 67)),0,[],.none,.none,.none,.none,none,.none,.none,0⟩),#[]⟩
noncomputable def oz224:Obj:=⟨c35,none,(.fields #[(.str c23 670),(.str c23 671),(.str c15 672),(.int 189 0),(.int 1 0),(.int 0 0),(.int 0 0),(.int 3 0),(.ref 221),(.bool true),(.int 181 0),(.ref 222),.none,.none,.none,(.ref 223),(.int 673 0),(.int 189 0),(.str c15 674)]),#[]⟩
noncomputable def oz225:Obj:=⟨c39,none,(.func ⟨c23,c23,(za (zf 67)),(zb (zf 67)),(zs (zf 67)),3,[],.none,.none,.none,c14,none,(.ref 224),.none,0⟩),#[]⟩
noncomputable def oz226:Obj:=c33
noncomputable def oz227:Obj:=c34
noncomputable def oz228:Obj:=⟨c9,none,(.seq #[(.str ⟨#[97]⟩ 679),(.str ⟨#[98]⟩ 680),(.str ⟨#[111,117,116]⟩ 681),(.str ⟨#[107]⟩ 682),(.str ⟨#[105]⟩ 683),(.str ⟨#[106]⟩ 684),(.str ⟨#[111,119,110]⟩ 685)] 0),#[]⟩
noncomputable def oz229:Obj:=c33
noncomputable def oz230:Obj:=⟨.none,none,(.func ⟨c24,c24,(za (zf 68)),(zb (zf 68)),(zs (zf 68)),0,[],.none,.none,.none,.none,none,.none,.none,0⟩),#[]⟩
noncomputable def oz231:Obj:=⟨c35,none,(.fields #[(.str c24 676),(.str c24 677),(.str c15 678),(.int 192 0),(.int 2 0),(.int 0 0),(.int 0 0),(.int 3 0),(.ref 226),(.bool true),(.int 181 0),(.ref 227),.none,(.ref 228),(.ref 229),(.ref 230),(.int 686 0),(.int 192 0),(.str c15 687)]),#[]⟩
noncomputable def oz232:Obj:=⟨c39,none,(.func ⟨c24,c24,(za (zf 68)),(zb (zf 68)),(zs (zf 68)),3,[],.none,.none,.none,c14,none,(.ref 231),.none,0⟩),#[]⟩
noncomputable def oz233:Obj:=c33
noncomputable def oz234:Obj:=c34
noncomputable def oz235:Obj:=⟨c9,none,(.seq #[(.str ⟨#[111,110,101]⟩ 692)] 0),#[]⟩
noncomputable def oz236:Obj:=c33
noncomputable def oz237:Obj:=⟨.none,none,(.func ⟨c25,c25,(za (zf 69)),(zb (zf 69)),(zs (zf 69)),0,[],.none,.none,.none,.none,none,.none,.none,0⟩),#[]⟩
noncomputable def oz238:Obj:=⟨c35,none,(.fields #[(.str c25 689),(.str c25 690),(.str c15 691),(.int 200 0),(.int 1 0),(.int 0 0),(.int 0 0),(.int 3 0),(.ref 233),(.bool true),(.int 181 0),(.ref 234),.none,(.ref 235),(.ref 236),(.ref 237),(.int 693 0),(.int 200 0),(.str c15 694)]),#[]⟩
noncomputable def oz239:Obj:=⟨c39,none,(.func ⟨c25,c25,(za (zf 69)),(zb (zf 69)),(zs (zf 69)),3,[],.none,.none,.none,c14,none,(.ref 238),.none,0⟩),#[]⟩
noncomputable def oz240:Obj:=c33
noncomputable def oz241:Obj:=c34
noncomputable def oz242:Obj:=⟨c9,none,(.seq #[(.str ⟨#[111,110,101]⟩ 699)] 0),#[]⟩
noncomputable def oz243:Obj:=c33
noncomputable def oz244:Obj:=⟨.none,none,(.func ⟨c26,c26,(za (zf 70)),(zb (zf 70)),(zs (zf 70)),0,[],.none,.none,.none,.none,none,.none,.none,0⟩),#[]⟩
noncomputable def oz245:Obj:=⟨c35,none,(.fields #[(.str c26 696),(.str c26 697),(.str c15 698),(.int 202 0),(.int 1 0),(.int 0 0),(.int 0 0),(.int 3 0),(.ref 240),(.bool true),(.int 181 0),(.ref 241),.none,(.ref 242),(.ref 243),(.ref 244),(.int 700 0),(.int 202 0),(.str c15 701)]),#[]⟩
noncomputable def oz246:Obj:=⟨c39,none,(.func ⟨c26,c26,(za (zf 70)),(zb (zf 70)),(zs (zf 70)),3,[],.none,.none,.none,c14,none,(.ref 245),.none,0⟩),#[]⟩
noncomputable def oz247:Obj:=c33
noncomputable def oz248:Obj:=c34
noncomputable def oz249:Obj:=⟨.none,none,(.func ⟨c27,c27,(za (zf 71)),(zb (zf 71)),(zs (zf 71)),0,[],.none,.none,.none,.none,none,.none,.none,0⟩),#[]⟩
noncomputable def oz250:Obj:=⟨c35,none,(.fields #[(.str c27 703),(.str c27 704),(.str c15 705),(.int 204 0),(.int 2 0),(.int 0 0),(.int 0 0),(.int 3 0),(.ref 247),(.bool true),(.int 181 0),(.ref 248),.none,.none,.none,(.ref 249),(.int 706 0),(.int 204 0),(.str c15 707)]),#[]⟩
noncomputable def oz251:Obj:=⟨c39,none,(.func ⟨c27,c27,(za (zf 71)),(zb (zf 71)),(zs (zf 71)),3,[],.none,.none,.none,c14,none,(.ref 250),.none,0⟩),#[]⟩
noncomputable def oz252:Obj:=c33
noncomputable def oz253:Obj:=c34
noncomputable def oz254:Obj:=⟨c9,none,(.seq #[(.str ⟨#[116,111,108,100]⟩ 712),(.str ⟨#[112,97,103,101]⟩ 713),(.str ⟨#[115,105,103,110]⟩ 714)] 0),#[]⟩
noncomputable def oz255:Obj:=c33
noncomputable def oz256:Obj:=⟨.none,none,(.func ⟨c28,c28,(za (zf 72)),(zb (zf 72)),(zs (zf 72)),0,[],.none,.none,.none,.none,none,.none,.none,0⟩),#[]⟩
noncomputable def oz257:Obj:=⟨c35,none,(.fields #[(.str c28 709),(.str c28 710),(.str c15 711),(.int 217 0),(.int 1 0),(.int 0 0),(.int 0 0),(.int 3 0),(.ref 252),(.bool true),(.int 181 0),(.ref 253),.none,(.ref 254),(.ref 255),(.ref 256),(.int 715 0),(.int 217 0),(.str c15 716)]),#[]⟩
noncomputable def oz258:Obj:=⟨c39,none,(.func ⟨c28,c28,(za (zf 72)),(zb (zf 72)),(zs (zf 72)),3,[],.none,.none,.none,c14,none,(.ref 257),.none,0⟩),#[]⟩
noncomputable def oz259:Obj:=c33
noncomputable def oz260:Obj:=c34
noncomputable def oz261:Obj:=⟨c9,none,(.seq #[(.str ⟨#[115,105,122,101,115]⟩ 721),(.str ⟨#[119,97,121,115]⟩ 722),(.str ⟨#[105]⟩ 723),(.str ⟨#[119,97,121]⟩ 724),(.str ⟨#[109]⟩ 725)] 0),#[]⟩
noncomputable def oz262:Obj:=c33
noncomputable def oz263:Obj:=⟨.none,none,(.func ⟨c29,c29,(za (zf 73)),(zb (zf 73)),(zs (zf 73)),0,[],.none,.none,.none,.none,none,.none,.none,0⟩),#[]⟩
noncomputable def oz264:Obj:=⟨c35,none,(.fields #[(.str c29 718),(.str c29 719),(.str c15 720),(.int 225 0),(.int 1 0),(.int 0 0),(.int 0 0),(.int 3 0),(.ref 259),(.bool true),(.int 181 0),(.ref 260),.none,(.ref 261),(.ref 262),(.ref 263),(.int 726 0),(.int 225 0),(.str c15 727)]),#[]⟩
noncomputable def oz265:Obj:=⟨c39,none,(.func ⟨c29,c29,(za (zf 73)),(zb (zf 73)),(zs (zf 73)),3,[],.none,.none,.none,c14,none,(.ref 264),.none,0⟩),#[]⟩
noncomputable def oz266:Obj:=c33
noncomputable def oz267:Obj:=c34
noncomputable def oz268:Obj:=⟨.none,none,(.func ⟨c30,c30,(za (zf 74)),(zb (zf 74)),(zs (zf 74)),0,[],.none,.none,.none,.none,none,.none,.none,0⟩),#[]⟩
noncomputable def oz269:Obj:=⟨c35,none,(.fields #[(.str c30 729),(.str c30 730),(.str c15 731),(.int 233 0),(.int 1 0),(.int 0 0),(.int 0 0),(.int 3 0),(.ref 266),(.bool true),(.int 181 0),(.ref 267),.none,.none,.none,(.ref 268),(.int 732 0),(.int 233 0),(.str c15 733)]),#[]⟩
noncomputable def oz270:Obj:=⟨c39,none,(.func ⟨c30,c30,(za (zf 74)),(zb (zf 74)),(zs (zf 74)),3,[],.none,.none,.none,c14,none,(.ref 269),.none,0⟩),#[]⟩
noncomputable def kRest (P:Params):Frag:=[(0,(oz0 P)),
(1,(oz1 P)),
(2,oz2),
(3,(oz3 P)),
(4,oz4),
(5,oz5),
(6,oz6),
(7,oz7),
(8,oz8),
(9,oz9),
(10,oz10),
(11,oz11),
(12,oz12),
(13,oz13),
(14,oz14),
(15,oz15),
(16,oz16),
(17,oz17),
(18,oz18),
(19,oz19),
(20,oz20),
(21,oz21),
(22,oz22),
(23,oz23),
(24,oz24),
(25,oz25),
(26,oz26),
(27,oz27),
(28,oz28),
(29,oz29),
(30,oz30),
(31,oz31),
(32,oz32),
(33,oz33),
(34,oz34),
(35,oz35),
(36,oz36),
(37,oz37),
(38,oz38),
(39,oz39),
(40,oz40),
(41,oz41),
(42,oz42),
(43,oz43),
(44,oz44),
(45,oz45),
(46,oz46),
(47,oz47),
(48,oz48),
(49,oz49),
(57,oz57),
(58,oz58),
(59,oz59),
(60,oz60),
(61,oz61),
(62,oz62),
(63,oz63),
(64,oz64),
(65,oz65),
(66,oz66),
(67,oz67),
(68,oz68),
(69,oz69),
(70,oz70),
(71,oz71),
(72,oz72),
(73,oz73),
(74,oz74),
(75,oz75),
(76,oz76),
(77,oz77),
(78,oz78),
(79,oz79),
(80,oz80),
(81,oz81),
(82,oz82),
(83,oz83),
(84,oz84),
(85,oz85),
(86,oz86),
(87,oz87),
(88,oz88),
(89,oz89),
(90,oz90),
(91,oz91),
(92,oz92),
(93,oz93),
(94,oz94),
(95,oz95),
(96,oz96),
(97,oz97),
(98,oz98),
(99,oz99),
(100,oz100),
(101,oz101),
(102,oz102),
(103,oz103),
(104,oz104),
(105,oz105),
(106,oz106),
(107,oz107),
(108,oz108),
(109,oz109),
(110,oz110),
(111,oz111),
(112,oz112),
(113,oz113),
(114,oz114),
(115,oz115),
(116,oz116),
(117,oz117),
(118,oz118),
(119,oz119),
(120,oz120),
(121,(oz121 P)),
(122,oz122),
(123,oz123),
(124,oz124),
(127,oz127),
(130,oz130),
(135,oz135),
(136,oz136),
(137,oz137),
(138,oz138),
(139,oz139),
(140,oz140),
(141,oz141),
(142,oz142),
(143,oz143),
(144,oz144),
(145,oz145),
(146,oz146),
(147,oz147),
(148,oz148),
(149,oz149),
(150,oz150),
(151,oz151),
(152,oz152),
(153,oz153),
(154,oz154),
(155,oz155),
(156,oz156),
(157,oz157),
(158,oz158),
(159,oz159),
(160,oz160),
(161,oz161),
(162,oz162),
(163,oz163),
(164,oz164),
(165,oz165),
(166,oz166),
(167,oz167),
(169,oz169),
(170,oz170),
(171,oz171),
(172,oz172),
(173,oz173),
(174,oz174),
(176,oz176),
(177,oz177),
(178,oz178),
(179,oz179),
(180,oz180),
(181,oz181),
(182,oz182),
(183,oz183),
(184,oz184),
(185,oz185),
(186,oz186),
(187,oz187),
(188,oz188),
(189,oz189),
(190,oz190),
(191,oz191),
(192,oz192),
(193,oz193),
(194,oz194),
(195,oz195),
(196,oz196),
(197,oz197),
(198,oz198),
(199,oz199),
(200,oz200),
(201,oz201),
(202,oz202),
(203,oz203),
(204,oz204),
(205,(oz205 P)),
(206,oz206),
(207,oz207),
(208,oz208),
(211,(oz211 P)),
(214,oz214),
(215,oz215),
(216,oz216),
(217,oz217),
(218,oz218),
(219,oz219),
(220,oz220),
(221,oz221),
(222,oz222),
(223,oz223),
(224,oz224),
(225,oz225),
(226,oz226),
(227,oz227),
(228,oz228),
(229,oz229),
(230,oz230),
(231,oz231),
(232,oz232),
(233,oz233),
(234,oz234),
(235,oz235),
(236,oz236),
(237,oz237),
(238,oz238),
(239,oz239),
(240,oz240),
(241,oz241),
(242,oz242),
(243,oz243),
(244,oz244),
(245,oz245),
(246,oz246),
(247,oz247),
(248,oz248),
(249,oz249),
(250,oz250),
(251,oz251),
(252,oz252),
(253,oz253),
(254,oz254),
(255,oz255),
(256,oz256),
(257,oz257),
(258,oz258),
(259,oz259),
(260,oz260),
(261,oz261),
(262,oz262),
(263,oz263),
(264,oz264),
(265,oz265),
(266,oz266),
(267,oz267),
(268,oz268),
(269,oz269),
(270,oz270)]
noncomputable def kTop (P:Params):Frag:=(168,oz168)::(175,oz175)::kRest P
noncomputable def ktL (P:Params):KT:=
(.node (some (oz0 P))
(.node (some (oz1 P))
(.node (some (oz3 P))
(.node (some oz7)
(.node (some oz15)
(.node (some oz31)
(.node (some oz63)
(.node (some oz127)
(.node (some oz255) .nil .nil) .nil)
(.node (some oz191) .nil .nil))
(.node (some oz95)
(.node (some oz159) .nil .nil)
(.node (some oz223) .nil .nil)))
(.node (some oz47)
(.node (some oz79)
(.node (some oz143) .nil .nil)
(.node (some oz207) .nil .nil))
(.node (some oz111) .nil
(.node (some oz239) .nil .nil))))
(.node (some oz23)
(.node (some oz39)
(.node (some oz71)
(.node (some oz135)
(.node (some oz263) .nil .nil) .nil)
(.node (some oz199) .nil .nil))
(.node (some oz103)
(.node (some oz167) .nil .nil)
(.node (some oz231) .nil .nil))) (.node none
(.node (some oz87)
(.node (some oz151) .nil .nil)
(.node (some oz215) .nil .nil))
(.node (some oz119)
(.node (some oz183) .nil .nil)
(.node (some oz247) .nil .nil)))))
(.node (some oz11)
(.node (some oz19)
(.node (some oz35)
(.node (some oz67) (.node none
(.node (some oz259) .nil .nil) .nil)
(.node (some oz195) .nil .nil))
(.node (some oz99)
(.node (some oz163) .nil .nil)
(.node (some oz227) .nil .nil))) (.node none
(.node (some oz83)
(.node (some oz147) .nil .nil)
(.node (some (oz211 P)) .nil .nil))
(.node (some oz115)
(.node (some oz179) .nil .nil)
(.node (some oz243) .nil .nil))))
(.node (some oz27)
(.node (some oz43)
(.node (some oz75)
(.node (some oz139)
(.node (some oz267) .nil .nil) .nil)
(.node (some oz203) .nil .nil))
(.node (some oz107)
(.node (some oz171) .nil .nil)
(.node (some oz235) .nil .nil)))
(.node (some oz59)
(.node (some oz91)
(.node (some oz155) .nil .nil)
(.node (some oz219) .nil .nil))
(.node (some oz123)
(.node (some oz187) .nil .nil)
(.node (some oz251) .nil .nil))))))
(.node (some oz5)
(.node (some oz9)
(.node (some oz17)
(.node (some oz33)
(.node (some oz65) (.node none
(.node (some oz257) .nil .nil) .nil)
(.node (some oz193) .nil .nil))
(.node (some oz97)
(.node (some oz161) .nil .nil)
(.node (some oz225) .nil .nil)))
(.node (some oz49)
(.node (some oz81)
(.node (some oz145) .nil .nil) .nil)
(.node (some oz113)
(.node (some oz177) .nil .nil)
(.node (some oz241) .nil .nil))))
(.node (some oz25)
(.node (some oz41)
(.node (some oz73)
(.node (some oz137)
(.node (some oz265) .nil .nil) .nil)
(.node (some oz201) .nil .nil))
(.node (some oz105)
(.node (some oz169) .nil .nil)
(.node (some oz233) .nil .nil)))
(.node (some oz57)
(.node (some oz89)
(.node (some oz153) .nil .nil)
(.node (some oz217) .nil .nil))
(.node (some (oz121 P))
(.node (some oz185) .nil .nil)
(.node (some oz249) .nil .nil)))))
(.node (some oz13)
(.node (some oz21)
(.node (some oz37)
(.node (some oz69) (.node none
(.node (some oz261) .nil .nil) .nil)
(.node (some oz197) .nil .nil))
(.node (some oz101)
(.node (some oz165) .nil .nil)
(.node (some oz229) .nil .nil))) (.node none
(.node (some oz85)
(.node (some oz149) .nil .nil) .nil)
(.node (some oz117)
(.node (some oz181) .nil .nil)
(.node (some oz245) .nil .nil))))
(.node (some oz29)
(.node (some oz45)
(.node (some oz77)
(.node (some oz141)
(.node (some oz269) .nil .nil) .nil)
(.node (some (oz205 P)) .nil .nil))
(.node (some oz109)
(.node (some oz173) .nil .nil)
(.node (some oz237) .nil .nil)))
(.node (some oz61)
(.node (some oz93)
(.node (some oz157) .nil .nil)
(.node (some oz221) .nil .nil)) (.node none
(.node (some oz189) .nil .nil)
(.node (some oz253) .nil .nil)))))))
(.node (some oz2)
(.node (some oz4)
(.node (some oz8)
(.node (some oz16)
(.node (some oz32)
(.node (some oz64) (.node none
(.node (some oz256) .nil .nil) .nil)
(.node (some oz192) .nil .nil))
(.node (some oz96)
(.node (some oz160) .nil .nil)
(.node (some oz224) .nil .nil)))
(.node (some oz48)
(.node (some oz80)
(.node (some oz144) .nil .nil)
(.node (some oz208) .nil .nil))
(.node (some oz112)
(.node (some oz176) .nil .nil)
(.node (some oz240) .nil .nil))))
(.node (some oz24)
(.node (some oz40)
(.node (some oz72)
(.node (some oz136)
(.node (some oz264) .nil .nil) .nil)
(.node (some oz200) .nil .nil))
(.node (some oz104) .nil
(.node (some oz232) .nil .nil))) (.node none
(.node (some oz88)
(.node (some oz152) .nil .nil)
(.node (some oz216) .nil .nil))
(.node (some oz120)
(.node (some oz184) .nil .nil)
(.node (some oz248) .nil .nil)))))
(.node (some oz12)
(.node (some oz20)
(.node (some oz36)
(.node (some oz68) (.node none
(.node (some oz260) .nil .nil) .nil)
(.node (some oz196) .nil .nil))
(.node (some oz100)
(.node (some oz164) .nil .nil)
(.node (some oz228) .nil .nil))) (.node none
(.node (some oz84)
(.node (some oz148) .nil .nil) .nil)
(.node (some oz116)
(.node (some oz180) .nil .nil)
(.node (some oz244) .nil .nil))))
(.node (some oz28)
(.node (some oz44)
(.node (some oz76)
(.node (some oz140)
(.node (some oz268) .nil .nil) .nil)
(.node (some oz204) .nil .nil))
(.node (some oz108)
(.node (some oz172) .nil .nil)
(.node (some oz236) .nil .nil)))
(.node (some oz60)
(.node (some oz92)
(.node (some oz156) .nil .nil)
(.node (some oz220) .nil .nil))
(.node (some oz124)
(.node (some oz188) .nil .nil)
(.node (some oz252) .nil .nil))))))
(.node (some oz6)
(.node (some oz10)
(.node (some oz18)
(.node (some oz34)
(.node (some oz66)
(.node (some oz130)
(.node (some oz258) .nil .nil) .nil)
(.node (some oz194) .nil .nil))
(.node (some oz98)
(.node (some oz162) .nil .nil)
(.node (some oz226) .nil .nil))) (.node none
(.node (some oz82)
(.node (some oz146) .nil .nil) .nil)
(.node (some oz114)
(.node (some oz178) .nil .nil)
(.node (some oz242) .nil .nil))))
(.node (some oz26)
(.node (some oz42)
(.node (some oz74)
(.node (some oz138)
(.node (some oz266) .nil .nil) .nil)
(.node (some oz202) .nil .nil))
(.node (some oz106)
(.node (some oz170) .nil .nil)
(.node (some oz234) .nil .nil)))
(.node (some oz58)
(.node (some oz90)
(.node (some oz154) .nil .nil)
(.node (some oz218) .nil .nil))
(.node (some oz122)
(.node (some oz186) .nil .nil)
(.node (some oz250) .nil .nil)))))
(.node (some oz14)
(.node (some oz22)
(.node (some oz38)
(.node (some oz70) (.node none
(.node (some oz262) .nil .nil) .nil)
(.node (some oz198) .nil .nil))
(.node (some oz102)
(.node (some oz166) .nil .nil)
(.node (some oz230) .nil .nil))) (.node none
(.node (some oz86)
(.node (some oz150) .nil .nil)
(.node (some oz214) .nil .nil))
(.node (some oz118)
(.node (some oz182) .nil .nil)
(.node (some oz246) .nil .nil))))
(.node (some oz30)
(.node (some oz46)
(.node (some oz78)
(.node (some oz142)
(.node (some oz270) .nil .nil) .nil)
(.node (some oz206) .nil .nil))
(.node (some oz110)
(.node (some oz174) .nil .nil)
(.node (some oz238) .nil .nil)))
(.node (some oz62)
(.node (some oz94)
(.node (some oz158) .nil .nil)
(.node (some oz222) .nil .nil)) (.node none
(.node (some oz190) .nil .nil)
(.node (some oz254) .nil .nil))))))))
noncomputable def kAs:List Addr:=[168,175,0,1,2,3,4,5,6,7,8,9,10,11,12,13,14,15,16,17,18,19,20,21,22,23,24,25,26,27,28,29,30,31,32,33,34,35,36,37,38,39,40,41,42,43,44,45,46,47,48,49,57,58,59,60,61,62,63,64,65,66,67,68,69,70,71,72,73,74,75,76,77,78,79,80,81,82,83,84,85,86,87,88,89,90,91,92,93,94,95,96,97,98,99,100,101,102,103,104,105,106,107,108,109,110,111,112,113,114,115,116,117,118,119,120,121,122,123,124,127,130,135,136,137,138,139,140,141,142,143,144,145,146,147,148,149,150,151,152,153,154,155,156,157,158,159,160,161,162,163,164,165,166,167,169,170,171,172,173,174,176,177,178,179,180,181,182,183,184,185,186,187,188,189,190,191,192,193,194,195,196,197,198,199,200,201,202,203,204,205,206,207,208,211,214,215,216,217,218,219,220,221,222,223,224,225,226,227,228,229,230,231,232,233,234,235,236,237,238,239,240,241,242,243,244,245,246,247,248,249,250,251,252,253,254,255,256,257,258,259,260,261,262,263,264,265,266,267,268,269,270]
theorem kt_of (P:Params):KT.of (kRest P)=ktL P:=by kernel_rfl
theorem kas_of (P:Params):kAs=(kTop P).map (·.1):=by kernel_rfl
noncomputable def unE (e:DictEntry):Str×Nat×Value:=match e.key with
 | .str s t=>(s,t,e.val)
 | _=>(⟨#[]⟩,0,.none)
theorem tabEs (P:Params):c91 P=((c91 P).map unE).map fun x=>⟨PyData.keyHash P x.1,.str x.1 x.2.1,x.2.2⟩:=by kernel_rfl
theorem tab_keys (w:World):KeysOf (strKind PySem.Challenge.pw_tr0064_01 w) ⟨c91 w.params⟩:=fun e he=>by
 have h:e∈c91 w.params:=Array.mem_def.mp he
 rw [tabEs] at h
 obtain ⟨x,_,rfl⟩:=List.mem_map.mp h
 exact ⟨x.1,by show (x.1 == x.1)=true; exact beq_self_eq_true _,rfl⟩
theorem tab_find (P:Params):∀ d:Int,0≤d->d<5->∃ tk,findBy Value.isStrOf ⟨c91 P⟩ (tx [d])=some (.int (20 + d) tk):=fun d h0 h5=>by
 have e:∀ d,findBy Value.isStrOf ⟨c91 P⟩ (tx [d])=((c91 P).find? fun e=>Value.isStrOf (tx [d]) e.key).map (·.val):=fun d=>by
  unfold findBy
  rw [show (⟨c91 P⟩:Array DictEntry)=(c91 P).toArray from rfl,List.find?_toArray]
 rw [e]
 rcases (show d=0∨d=1∨d=2∨d=3∨d=4 by exact om216 h0 h5) with rfl | rfl | rfl | rfl | rfl
 · exact ⟨494,by kernel_rfl⟩
 · exact ⟨496,by kernel_rfl⟩
 · exact ⟨498,by kernel_rfl⟩
 · exact ⟨500,by kernel_rfl⟩
 · exact ⟨502,by kernel_rfl⟩
theorem tabK (w:World):Tab (ktL w.params) w:=fun d h0 h5=>by
 obtain ⟨tk,h⟩:=tab_find w.params d h0 h5
 exact ⟨tk,oz211 w.params,⟨c91 w.params⟩,48,by kernel_rfl,⟨by kernel_rfl,rfl,rfl⟩,rfl,tab_keys w,h⟩
noncomputable def fcDig (n:Nat):Nat->Int:=v3 (Int.ofNat (n % 5)) (Int.ofNat (n / 5 % 5)) (Int.ofNat (n / 25))
noncomputable def fcNx (a b c n:Nat):Nat:=n / 5 + 25 * ((a * (n % 5) + b * (n / 5 % 5) + c * (n / 25)) % 5)
theorem fcNx_lt (a b c:Nat) {n:Nat} (h:n<125):fcNx a b c n<125:=by
 unfold fcNx
 have:(a * (n % 5) + b * (n / 5 % 5) + c * (n / 25)) % 5<5:=Nat.mod_lt _ (by decide)
 exact om50 h
theorem fmod5_eq (x:Int):x.fmod 5=x % 5:=Int.fmod_eq_emod_of_nonneg _ (by decide)
theorem mulmod5 {r a:Int} (h:r % 5=a) (x:Int):∃ k:Int,r * x=5 * k + a * x:=⟨(r / 5) * x,by
 have e:r=5 * (r / 5) + a:=by exact om51 h
 calc r * x=(5 * (r / 5) + a) * x:=by rw [← e]
  _=_:=by rw [Int.add_mul,Int.mul_assoc]⟩
theorem v3_eq {x y z x' y' z':Int} (h1:x=x') (h2:y=y') (h3:z=z'):v3 x y z=v3 x' y' z':=by rw [h1,h2,h3]
theorem fcNx_ok {r:Nat->Int} {a b c n:Nat} (ha:(r 0).fmod 5=(a:Int)) (hb:(r 1).fmod 5=(b:Int)) (hc:(r 2).fmod 5=(c:Int)) (h:n<125):nx r (fcDig n)=fcDig (fcNx a b c n):=by
 have hq:(a * (n % 5) + b * (n / 5 % 5) + c * (n / 25)) % 5<5:=Nat.mod_lt _ (by decide)
 unfold nx fcDig
 refine v3_eq ?_ ?_ ?_
 · show Int.ofNat (n / 5 % 5)=Int.ofNat (fcNx a b c n % 5)
   unfold fcNx
   congr 1
   exact om52
 · show Int.ofNat (n / 25)=Int.ofNat (fcNx a b c n / 5 % 5)
   unfold fcNx
   congr 1
   exact om53 h
 · show (r 0 * Int.ofNat (n % 5) + r 1 * Int.ofNat (n / 5 % 5) + r 2 * Int.ofNat (n / 25)).fmod 5=Int.ofNat (fcNx a b c n / 25)
   have e:fcNx a b c n / 25=(a * (n % 5) + b * (n / 5 % 5) + c * (n / 25)) % 5:=by
    unfold fcNx
    exact om54 h
   rw [e]
   rw [fmod5_eq] at ha hb hc ⊢
   obtain ⟨k0,e0⟩:=mulmod5 ha (Int.ofNat (n % 5))
   obtain ⟨k1,e1⟩:=mulmod5 hb (Int.ofNat (n / 5 % 5))
   obtain ⟨k2,e2⟩:=mulmod5 hc (Int.ofNat (n / 25))
   rw [e0,e1,e2]
   have f0:(a:Int) * Int.ofNat (n % 5)=((a * (n % 5):Nat):Int):=by rw [Int.natCast_mul]; rfl
   have f1:(b:Int) * Int.ofNat (n / 5 % 5)=((b * (n / 5 % 5):Nat):Int):=by rw [Int.natCast_mul]; rfl
   have f2:(c:Int) * Int.ofNat (n / 25)=((c * (n / 25):Nat):Int):=by rw [Int.natCast_mul]; rfl
   rw [f0,f1,f2]
   show _=(((a * (n % 5) + b * (n / 5 % 5) + c * (n / 25)) % 5:Nat):Int)
   generalize a * (n % 5)=x
   generalize b * (n / 5 % 5)=y
   generalize c * (n / 25)=z
   exact om55
noncomputable def fcLook (t n:Nat):Nat:=Nat.land (Nat.shiftRight t (Nat.mul 7 n)) 127
noncomputable def fcAll (n:Nat) (p:Nat->Bool):Bool:=Nat.rec true (fun k ih=>cond (p k) ih false) n
theorem fcAll_spec {p:Nat->Bool}:∀ {n:Nat},fcAll n p=true->∀ k,k<n->p k=true
 | 0,_,k,hk=>absurd hk (Nat.not_lt_zero k)
 | n + 1,h,k,hk=>by
  have h':cond (p n) (fcAll n p) false=true:=h
  cases e:p n with
  | false=>rw [e] at h'; cases h'
  | true =>
   rw [e] at h'
   by_cases q:k=n
   · rw [q]; exact e
   · exact fcAll_spec h' k (by exact om33 hk q)
noncomputable def fcSt (t m:Nat):Nat->Nat:=Nat.rec (fun n=>n) (fun _ ih n=>ih (fcLook t n)) m
noncomputable def fcMask (t m:Nat):Nat->Nat:=Nat.rec (fun _=>0) (fun _ ih n=>Nat.add (Nat.sub 1 (Nat.mod n 5)) (Nat.mul 2 (ih (fcLook t n)))) m
noncomputable def fcTold (t m:Nat):Nat->List Nat:=Nat.rec (fun _=>[]) (fun _ ih n=>(n % 5)::ih (fcLook t n)) m
noncomputable def fcTab (t a b c:Nat):Bool:=fcAll 125 fun n=>Nat.beq (fcLook t n) (fcNx a b c n)
structure FcT (r:Nat->Int) (t:Nat):Prop where
 nx:∀ n,n<125->nx r (fcDig n)=fcDig (fcLook t n)
 lt:∀ n,n<125->fcLook t n<125
theorem fcT_of {r:Nat->Int} {t a b c:Nat} (ha:(r 0).fmod 5=(a:Int)) (hb:(r 1).fmod 5=(b:Int)) (hc:(r 2).fmod 5=(c:Int)) (h:fcTab t a b c=true):FcT r t:=by
 have e:∀ n,n<125->fcLook t n=fcNx a b c n:=fun n hn=>Nat.eq_of_beq_eq_true (fcAll_spec h n hn)
 exact ⟨fun n hn=>by rw [e n hn]; exact fcNx_ok ha hb hc hn,fun n hn=>by rw [e n hn]; exact fcNx_lt a b c hn⟩
theorem fc_tell {r:Nat->Int} {t:Nat} (T:FcT r t):∀ (m:Nat) (l:List Int) (n:Nat),n<125->tell r m l (fcDig n)=(l++(fcTold t m n).map Int.ofNat,fcDig (fcSt t m n))
 | 0,l,n,_=>by
  show (l,fcDig n)=(l++[],fcDig n)
  rw [List.append_nil]
 | m + 1,l,n,h=>by
  show tell r m (l++[Int.ofNat (n % 5)]) (Mine.nx r (fcDig n))=_
  rw [T.nx n h,fc_tell T m _ _ (T.lt n h),List.append_assoc]
  rfl
noncomputable def fcM:List Nat->Nat
 | []=>0
 | d::l=>(1 - d) + 2 * fcM l
theorem fc_mask (t:Nat):∀ (m n:Nat),fcMask t m n=fcM (fcTold t m n)
 | 0,_=>rfl
 | m + 1,n=>by
  show Nat.add (Nat.sub 1 (Nat.mod n 5)) (Nat.mul 2 (fcMask t m (fcLook t n)))=(1 - n % 5) + 2 * fcM (fcTold t m (fcLook t n))
  rw [fc_mask t m]
  rfl
theorem fcTold_len (t:Nat):∀ (m n:Nat),(fcTold t m n).length=m
 | 0,_=>rfl
 | m + 1,n=>congrArg (· + 1) (fcTold_len t m (fcLook t n))
theorem fcTold_lt (t:Nat):∀ (m n:Nat),∀ d∈fcTold t m n,d<5
 | 0,_,d,h=>nomatch h
 | m + 1,n,d,h=>by
  rcases List.mem_cons.mp (show d∈(n % 5)::fcTold t m (fcLook t n) from h) with rfl | h
  · exact Nat.mod_lt _ (by decide)
  · exact fcTold_lt t m _ d h
theorem fcM_bit:∀ (l:List Nat) (k:Nat),k<l.length->(fcM l / 2 ^ k % 2=1 ↔ l.getD k 1=0)
 | [],k,h=>absurd h (Nat.not_lt_zero k)
 | d::l,0,_=>by
  show ((1 - d) + 2 * fcM l) / 1 % 2=1 ↔ d=0
  exact om56
 | d::l,k + 1,h=>by
  have ih:=fcM_bit l k (Nat.lt_of_succ_lt_succ h)
  have e:fcM (d::l) / 2 ^ (k + 1)=fcM l / 2 ^ k:=by
   show ((1 - d) + 2 * fcM l) / 2 ^ (k + 1)=_
   rw [Nat.pow_succ,Nat.mul_comm (2 ^ k) 2,← Nat.div_div_eq_div_mul]
   congr 1
   exact om57
  rw [e]
  exact ih
noncomputable def rowsR:List Int->List Int->List (List Int)
 | cur,[]=>if cur=[] then [] else [cur]
 | cur,d::l=>if d=0 then (cur++[0])::rowsR [] l else rowsR (cur++[d]) l
theorem rows_fold:∀ (told:List Int) (R:List (List Int)) (cur:List Int),
 (if (told.foldl lay (R,cur)).2=[] then (told.foldl lay (R,cur)).1 else (told.foldl lay (R,cur)).1++[(told.foldl lay (R,cur)).2])=R++rowsR cur told
 | [],R,cur=>by
  unfold rowsR
  show (if cur=[] then R else R++[cur])=_
  by_cases h:cur=[]
  · rw [if_pos h,if_pos h,List.append_nil]
  · rw [if_neg h,if_neg h]
 | d::l,R,cur=>by
  rw [List.foldl_cons]
  unfold rowsR
  by_cases h:d=0
  · have e:lay (R,cur) d=(R++[cur++[0]],[]):=by unfold lay; rw [if_pos h]
    rw [e,if_pos h,rows_fold l,List.append_assoc]
    rfl
  · have e:lay (R,cur) d=(R,cur++[d]):=by unfold lay; rw [if_neg h]
    rw [e,if_neg h,rows_fold l]
theorem rowsOf_eq (told:List Int):rowsOf told=rowsR [] told:=by
 have:=rows_fold told [] []
 rw [List.nil_append] at this
 exact this
noncomputable def fcLens:Nat->Nat->Nat->List Nat
 | 0,_,cur=>if cur=0 then [] else [cur]
 | k + 1,m,cur=>if m % 2=1 then (cur + 1)::fcLens k (m / 2) 0 else fcLens k (m / 2) (cur + 1)
theorem fc_lens:∀ (l:List Nat) (cur:List Int),(rowsR cur (l.map Int.ofNat)).map List.length=fcLens l.length (fcM l) cur.length
 | [],cur=>by
  show (if cur=[] then ([]:List (List Int)) else [cur]).map List.length=if cur.length=0 then [] else [cur.length]
  cases cur with
  | nil=>rfl
  | cons a b=>rfl
 | d::l,cur=>by
  show (if Int.ofNat d=0 then (cur++[0])::rowsR [] (l.map Int.ofNat) else rowsR (cur++[Int.ofNat d]) (l.map Int.ofNat)).map List.length=if ((1 - d) + 2 * fcM l) % 2=1 then (cur.length + 1)::fcLens l.length (((1 - d) + 2 * fcM l) / 2) 0 else fcLens l.length (((1 - d) + 2 * fcM l) / 2) (cur.length + 1)
  have e:((1 - d) + 2 * fcM l) / 2=fcM l:=by exact om57
  rw [e]
  by_cases h:d=0
  · subst h
    rw [if_pos (show Int.ofNat 0=0 from rfl),if_pos (by exact om58),List.map_cons,fc_lens l [],List.length_append]
    rfl
  · have h':¬ Int.ofNat d=0:=fun q=>h (Int.ofNat.inj q)
    rw [if_neg h',if_neg (by exact om59 h),fc_lens l,List.length_append]
    rfl
theorem rows_last:∀ (told:List Int) (cur:List Int) (d:Int),told.getLast? = some d->∃ r,(rowsR cur told).getLast? = some r∧r.getLast? = some d
 | [],_,_,h=>nomatch h
 | [e],cur,d,h=>by
  obtain rfl:e=d:=Option.some.inj h
  unfold rowsR
  by_cases q:e=0
  · subst q
    rw [if_pos rfl]
    exact ⟨cur++[0],rfl,by simp⟩
  · rw [if_neg q]
    refine ⟨cur++[e],?_,by simp⟩
    unfold rowsR
    rw [if_neg (by simp)]
    rfl
 | e::e'::l,cur,d,h=>by
  have h':(e'::l).getLast? = some d:=by
   rw [List.getLast?_cons_cons] at h
   exact h
  unfold rowsR
  by_cases q:e=0
  · rw [if_pos q]
    obtain ⟨r,h1,h2⟩:=rows_last (e'::l) [] d h'
    refine ⟨r,?_,h2⟩
    cases w:rowsR [] (e'::l) with
    | nil=>rw [w] at h1; cases h1
    | cons a b =>
     rw [w] at h1
     rw [List.getLast?_cons_cons]
     exact h1
  · rw [if_neg q]
    exact rows_last (e'::l) _ d h'
noncomputable def fcBit (m k:Nat):Bool:=Nat.beq (Nat.mod (Nat.div m (Nat.pow 2 k)) 2) 1
theorem fcBit_eq {l:List Nat} (h:l.length=31) {k:Nat} (hk:k<31):((l.map Int.ofNat).getD k 1 == 0)=fcBit (fcM l) k:=by
 have b:=fcM_bit l k (by exact om60 h hk)
 have e:(l.map Int.ofNat).getD k 1=Int.ofNat (l.getD k 1):=by
  rw [List.getD_eq_getElem?_getD,List.getD_eq_getElem?_getD,List.getElem?_map]
  cases l[k]? <;> rfl
 rw [e]
 have q:fcBit (fcM l) k=decide (fcM l / 2 ^ k % 2=1):=by
  show Nat.beq (fcM l / 2 ^ k % 2) 1=_
  rw [BT.beq_eq]
 rw [q]
 by_cases x:fcM l / 2 ^ k % 2=1
 · rw [decide_eq_true x,b.mp x]; rfl
 · rw [decide_eq_false x]
   have y:¬ l.getD k 1=0:=fun z=>x (b.mpr z)
   cases w:l.getD k 1 with
   | zero=>exact absurd w y
   | succ n=>rfl
noncomputable def fcNou (m:Nat):List Int:=((List.range 31).filter fun k=>fcBit m k).map Int.ofNat
noncomputable def fcFiv (m:Nat):List Int:=((List.range 31).filter fun k=>fcBit m k).map fun k=>(5 * Int.ofNat k).fmod 31
theorem fc_nou {l:List Nat} (h:l.length=31):nou (l.map Int.ofNat)=fcNou (fcM l):=by
 unfold nou fcNou
 congr 1
 exact List.filter_congr fun k hk=>fcBit_eq h (List.mem_range.mp hk)
theorem fc_fiv {l:List Nat} (h:l.length=31):fiv (l.map Int.ofNat)=fcFiv (fcM l):=by
 unfold fiv fcFiv
 congr 1
 exact List.filter_congr fun k hk=>fcBit_eq h (List.mem_range.mp hk)
noncomputable def fcPg7 (a b c d e f g:Nat):Bool:=sortI (waysOf [Int.ofNat a + Int.ofNat g,Int.ofNat b,Int.ofNat c,Int.ofNat d,Int.ofNat e,Int.ofNat f]) == one30
noncomputable def fcPg6 (a b c d e f:Nat):Bool:=sortI (waysOf [Int.ofNat a,Int.ofNat b,Int.ofNat c,Int.ofNat d,Int.ofNat e,Int.ofNat f]) == one30
noncomputable def fcPg (m:Nat):Bool:=match fcLens 31 m 0 with
 | []=>false
 | a::l=>match l with
  | []=>false
  | b::l=>match l with
   | []=>false
   | c::l=>match l with
    | []=>false
    | d::l=>match l with
     | []=>false
     | e::l=>match l with
      | []=>false
      | f::l=>match l with
       | []=>cond (fcBit m 30) (fcPg6 a b c d e f) false
       | g::l=>match l with
        | []=>cond (fcBit m 30) false (fcPg7 a b c d e f g)
        | _::_=>false
theorem fcLens_le:∀ (k m cur:Nat),∀ x∈fcLens k m cur,x≤k + cur
 | 0,_,cur,x,h=>by
  unfold fcLens at h
  split at h
  · cases h
  · rw [List.mem_singleton] at h
    exact om61 h
 | k + 1,m,cur,x,h=>by
  unfold fcLens at h
  split at h
  · rcases List.mem_cons.mp h with rfl | h
    · exact om62
    · have:=fcLens_le k _ _ x h
      exact om63 this
  · have:=fcLens_le k _ _ x h
    exact om64 this
theorem len_cons {α:Type} {l:List (List α)} {n:Nat} {r:List Nat} (h:l.map List.length=n::r):∃ x t,l=x::t∧x.length=n∧t.map List.length=r:=by
 cases l with
 | nil=>cases h
 | cons x t =>
  injection h with h1 h2
  exact ⟨x,t,rfl,h1,h2⟩
theorem len_nil {α:Type} {l:List (List α)} (h:l.map List.length=[]):l=[]:=by
 cases l with
 | nil=>rfl
 | cons x t=>cases h
theorem fc_pg {l:List Nat} (h:l.length=31) (h5:∀ d∈l,d<5) (p:fcPg (fcM l)=true):PgOk (l.map Int.ofNat):=by
 have L:=fc_lens l []
 rw [h] at L
 have hle:=fcLens_le 31 (fcM l) 0
 obtain ⟨z,hz⟩:∃ z,l.getLast? = some z:=by
  cases q:l.getLast? with
  | none=>rw [List.getLast?_eq_none_iff] at q; rw [q] at h; cases h
  | some z=>exact ⟨z,rfl⟩
 have hz5:z<5:=h5 z (List.mem_of_getLast? hz)
 have hz':(l.map Int.ofNat).getLast? = some (Int.ofNat z):=by rw [List.getLast?_map,hz]; rfl
 have hz0:l.getD 30 1=z:=by
  rw [List.getLast?_eq_getElem?,h] at hz
  rw [List.getD_eq_getElem?_getD,hz]
  rfl
 have bit:fcBit (fcM l) 30=(Int.ofNat z == 0):=by
  rw [← fcBit_eq h (by decide)]
  rw [show (l.map Int.ofNat).getD 30 1=Int.ofNat (l.getD 30 1) by
   rw [List.getD_eq_getElem?_getD,List.getD_eq_getElem?_getD,List.getElem?_map]
   cases l[30]? <;> rfl,hz0]
 obtain ⟨r,hr,hrl⟩:=rows_last (l.map Int.ofNat) [] _ hz'
 rw [← rowsOf_eq] at L hr
 unfold fcPg at p
 change _=fcLens 31 (fcM l) 0 at L
 generalize fcLens 31 (fcM l) 0=ls at L p hle
 cases ls with
 | nil=>cases p
 | cons a ls =>
 cases ls with
 | nil=>cases p
 | cons b ls =>
 cases ls with
 | nil=>cases p
 | cons c ls =>
 cases ls with
 | nil=>cases p
 | cons d ls =>
 cases ls with
 | nil=>cases p
 | cons e ls =>
 cases ls with
 | nil=>cases p
 | cons f ls =>
 have ha:=hle a (by simp)
 have hb:=hle b (by simp)
 have hc:=hle c (by simp)
 have hd:=hle d (by simp)
 have he:=hle e (by simp)
 have hf:=hle f (by simp)
 obtain ⟨r0,t0,e0,l0,L⟩:=len_cons L
 obtain ⟨r1,t1,e1,l1,L⟩:=len_cons L
 obtain ⟨r2,t2,e2,l2,L⟩:=len_cons L
 obtain ⟨r3,t3,e3,l3,L⟩:=len_cons L
 obtain ⟨r4,t4,e4,l4,L⟩:=len_cons L
 obtain ⟨r5,t5,e5,l5,L⟩:=len_cons L
 cases ls with
 | nil =>
  have:=len_nil L
  rw [this] at e5
  rw [e5] at e4
  rw [e4] at e3
  rw [e3] at e2
  rw [e2] at e1
  rw [e1] at e0
  simp only at p
  rw [bit] at p
  cases q:(Int.ofNat z == 0) with
  | false=>rw [q] at p; cases p
  | true =>
   rw [q] at p
   have p':fcPg6 a b c d e f=true:=p
   unfold fcPg6 at p'
   have p2:=eq_of_beq p'
   rw [e0] at hr
   have hr':r5=r:=Option.some.inj hr
   refine .inr ⟨r0,r1,r2,r3,r4,r5,e0,?_,⟨by exact om65 ha l0,by exact om65 hb l1,by exact om65 hc l2,by exact om65 hd l3,by exact om65 he l4,by exact om65 hf l5⟩,?_⟩
   · rw [hr',hrl,eq_of_beq q]
   · rw [l0,l1,l2,l3,l4,l5]
     exact p2
 | cons g ls =>
  have hg:=hle g (by simp)
  obtain ⟨r6,t6,e6,l6,L⟩:=len_cons L
  cases ls with
  | cons _ _=>cases p
  | nil =>
   have:=len_nil L
   rw [this] at e6
   rw [e6] at e5
   rw [e5] at e4
   rw [e4] at e3
   rw [e3] at e2
   rw [e2] at e1
   rw [e1] at e0
   simp only at p
   rw [bit] at p
   cases q:(Int.ofNat z == 0) with
   | true=>rw [q] at p; cases p
   | false =>
    rw [q] at p
    have p':fcPg7 a b c d e f g=true:=p
    unfold fcPg7 at p'
    have p2:=eq_of_beq p'
    rw [e0] at hr
    have hr':r6=r:=Option.some.inj hr
    have hz1:z ≠ 0:=fun w=>by rw [w] at q; cases q
    refine .inl ⟨r0,r1,r2,r3,r4,r5,r6,e0,⟨Int.ofNat z,by rw [hr',hrl],?_,?_⟩,⟨by exact om65 ha l0,by exact om65 hb l1,by exact om65 hc l2,by exact om65 hd l3,by exact om65 he l4,by exact om65 hf l5,by exact om65 hg l6⟩,?_⟩
    · exact Int.ofNat_lt.mpr (Nat.pos_of_ne_zero hz1)
    · exact Int.ofNat_lt.mpr hz5
    · rw [l0,l1,l2,l3,l4,l5,l6]
      exact p2
structure FcR where
 a:Nat
 b:Nat
 c:Nat
 t:Nat
structure FcS where
 s0:Nat
 s1:Nat
 s2:Nat
 q0:Nat
 q1:Nat
 q2:Nat
 i:Nat
noncomputable def fcRus:List FcR:=[⟨1,0,1,zo72⟩,
⟨3,0,2,zo73⟩,
⟨2,0,3,zo74⟩,
⟨4,0,4,zo75⟩,
⟨4,4,2,zo76⟩,
⟨2,3,3,zo77⟩,
⟨1,2,4,zo78⟩,
⟨2,1,0,zo79⟩,
⟨3,3,3,zo80⟩,
⟨2,1,4,zo81⟩,
⟨1,4,0,zo82⟩,
⟨1,2,1,zo83⟩,
⟨4,2,4,zo84⟩,
⟨4,4,0,zo85⟩,
⟨3,1,1,zo86⟩,
⟨2,3,2,zo87⟩,
⟨3,1,0,zo88⟩,
⟨4,2,1,zo89⟩,
⟨3,3,2,zo90⟩,
⟨1,4,3,zo91⟩,
⟨3,0,4,zo92⟩,
⟨1,3,0,zo93⟩,
⟨1,1,1,zo94⟩,
⟨3,2,0,zo95⟩,
⟨3,4,1,zo96⟩,
⟨4,1,2,zo97⟩,
⟨4,4,1,zo98⟩,
⟨1,0,2,zo99⟩,
⟨3,1,3,zo100⟩,
⟨2,1,2,zo101⟩,
⟨1,1,3,zo102⟩,
⟨4,1,4,zo103⟩,
⟨3,4,2,zo104⟩,
⟨4,0,3,zo105⟩,
⟨2,4,3,zo106⟩,
⟨1,4,4,zo107⟩,
⟨2,4,4,zo108⟩,
⟨4,3,0,zo109⟩,
⟨2,2,0,zo110⟩,
⟨2,0,1,zo111⟩]
noncomputable def fcRows:List FcS:=[⟨0,0,1,0,2,4,0⟩,
⟨0,0,2,0,3,1,1⟩,
⟨0,0,3,0,3,1,2⟩,
⟨0,0,4,0,2,4,3⟩,
⟨0,1,0,2,4,0,0⟩,
⟨0,1,1,3,1,3,4⟩,
⟨0,1,2,4,2,4,5⟩,
⟨0,1,3,0,2,3,6⟩,
⟨0,1,4,1,1,0,7⟩,
⟨0,2,0,3,1,0,1⟩,
⟨0,2,1,0,3,2,8⟩,
⟨0,2,2,2,4,2,9⟩,
⟨0,2,3,4,4,0,10⟩,
⟨0,2,4,1,3,1,11⟩,
⟨0,3,0,3,1,0,2⟩,
⟨0,3,1,1,3,1,12⟩,
⟨0,3,2,4,4,0,13⟩,
⟨0,3,3,2,4,2,14⟩,
⟨0,3,4,0,3,2,15⟩,
⟨0,4,0,2,4,0,3⟩,
⟨0,4,1,1,1,0,16⟩,
⟨0,4,2,0,2,3,17⟩,
⟨0,4,3,4,2,4,18⟩,
⟨0,4,4,3,1,3,19⟩,
⟨1,1,2,1,3,2,20⟩,
⟨1,1,3,1,4,1,21⟩,
⟨1,1,4,1,4,3,22⟩,
⟨1,1,0,1,3,3,4⟩,
⟨1,2,1,3,2,1,20⟩,
⟨1,2,2,4,4,1,23⟩,
⟨1,2,3,0,0,4,24⟩,
⟨1,2,4,1,0,0,25⟩,
⟨1,2,0,2,4,4,5⟩,
⟨1,3,1,4,1,1,21⟩,
⟨1,3,2,1,3,0,26⟩,
⟨1,3,3,3,4,2,27⟩,
⟨1,3,4,0,4,2,28⟩,
⟨1,3,0,2,3,0,6⟩,
⟨1,4,1,4,3,1,22⟩,
⟨1,4,2,2,0,4,29⟩,
⟨1,4,3,0,1,0,30⟩,
⟨1,4,4,3,1,4,31⟩,
⟨1,4,0,1,0,1,7⟩,
⟨1,0,1,3,3,1,4⟩,
⟨1,0,2,2,0,3,8⟩,
⟨1,0,3,1,1,3,12⟩,
⟨1,0,4,0,1,1,16⟩,
⟨1,0,0,4,0,2,0⟩,
⟨2,2,3,4,1,2,32⟩,
⟨2,2,4,4,2,3,33⟩,
⟨2,2,0,4,2,2,9⟩,
⟨2,2,1,4,1,4,23⟩,
⟨2,3,2,1,2,4,32⟩,
⟨2,3,3,2,4,1,34⟩,
⟨2,3,4,3,0,1,35⟩,
⟨2,3,0,4,0,4,10⟩,
⟨2,3,1,0,4,0,24⟩,
⟨2,4,2,2,3,4,33⟩,
⟨2,4,3,4,0,0,36⟩,
⟨2,4,4,1,1,4,37⟩,
⟨2,4,0,3,1,1,11⟩,
⟨2,4,1,0,0,1,25⟩,
⟨2,0,2,2,2,4,9⟩,
⟨2,0,3,0,4,4,13⟩,
⟨2,0,4,3,0,2,17⟩,
⟨2,0,0,1,0,3,1⟩,
⟨2,0,1,4,4,2,5⟩,
⟨2,1,2,1,4,4,23⟩,
⟨2,1,3,0,1,3,26⟩,
⟨2,1,4,4,2,0,29⟩,
⟨2,1,0,3,2,0,8⟩,
⟨2,1,1,2,1,3,20⟩,
⟨3,3,4,4,1,4,38⟩,
⟨3,3,0,4,2,2,14⟩,
⟨3,3,1,4,2,3,27⟩,
⟨3,3,2,4,1,2,34⟩,
⟨3,4,3,1,4,4,38⟩,
⟨3,4,4,2,1,3,39⟩,
⟨3,4,0,3,2,0,15⟩,
⟨3,4,1,4,2,0,28⟩,
⟨3,4,2,0,1,3,35⟩,
⟨3,0,3,2,2,4,14⟩,
⟨3,0,4,4,4,2,18⟩,
⟨3,0,0,1,0,3,2⟩,
⟨3,0,1,3,0,2,6⟩,
⟨3,0,2,0,4,4,10⟩,
⟨3,1,3,2,3,4,27⟩,
⟨3,1,4,0,0,1,30⟩,
⟨3,1,0,3,1,1,12⟩,
⟨3,1,1,1,1,4,21⟩,
⟨3,1,2,4,0,0,24⟩,
⟨3,2,3,1,2,4,34⟩,
⟨3,2,4,0,4,0,36⟩,
⟨3,2,0,4,0,4,13⟩,
⟨3,2,1,3,0,1,26⟩,
⟨3,2,2,2,4,1,32⟩,
⟨4,4,0,1,3,3,19⟩,
⟨4,4,1,1,4,3,31⟩,
⟨4,4,2,1,4,1,37⟩,
⟨4,4,3,1,3,2,39⟩,
⟨4,0,4,3,3,1,19⟩,
⟨4,0,0,4,0,2,3⟩,
⟨4,0,1,0,1,1,7⟩,
⟨4,0,2,1,1,3,11⟩,
⟨4,0,3,2,0,3,15⟩,
⟨4,1,4,4,3,1,31⟩,
⟨4,1,0,1,0,1,16⟩,
⟨4,1,1,3,1,4,22⟩,
⟨4,1,2,0,1,0,25⟩,
⟨4,1,3,2,0,4,28⟩,
⟨4,2,4,4,1,1,37⟩,
⟨4,2,0,2,3,0,17⟩,
⟨4,2,1,0,4,2,29⟩,
⟨4,2,2,3,4,2,33⟩,
⟨4,2,3,1,3,0,35⟩,
⟨4,3,4,3,2,1,39⟩,
⟨4,3,0,2,4,4,18⟩,
⟨4,3,1,1,0,0,30⟩,
⟨4,3,2,0,0,4,36⟩,
⟨4,3,3,4,4,1,38⟩]
noncomputable def fcPrs:List Nat:=[0x104c001080021413,
0xc0011480022903,
0x204a200080030251,
0x142000c800320a1,
0x180041108004110b,
0x980021400042826,
0x1800229000045206,
0x9440018000604a2,
0x2840019000064142,
0x2844100080068441,
0x8221600082216,
0x300042820008504c,
0x88008680086811,
0x2100110280088161,
0x452060008a40c,
0x28800302000c0944,
0x800320a000c8284,
0x882001a000d0882,
0x10442c00010442c,
0x8504c0010a098,
0x110010d00010d022,
0x20022058001102c2,
0x8a40c000114818,
0x1000604a00181288,
0x6414200190508,
0x10400342001a1104,
0x2008081480202053,
0x2088580000208858,
0x10a098000214130,
0x20021a040021a044,
0x440b0800220584,
0x1148180000229030,
0xc094400302510,
0xc8284000320a10,
0x40194080328101,
0x800684400342208,
0x1010298004040a6,
0x110b0008004110b0,
0x2141300000428260,
0x43408800434088,
0x881610000440b08,
0x2903000400452060,
0x181288000604a20,
0x1905080000641420,
0x803281000650202,
0xd088200684410,
0x1020200c80803281,
0x202053000080814c,
0xa6008080814c01,
0x2160010400822160,
0x28260008008504c0,
0x868110000868110,
0x102c200200881610,
0x2060008a008a40c0,
0x3025100000c09440,
0x20a1000600c82840,
0x65020200ca0404,
0x1a1104000d08820,
0x404019401006502,
0x2502020081010065,
0x40a600801010298,
0x14c0101001029802,
0x2c002088010442c0,
0x4c0010a010a0980,
0xd022002010d0220,
0x40043408110010d,
0x584004401102c20,
0xc00114801148180,
0x400181281288003,
0xc010102814c0101,
0x40b080081610011,
0x520600081800229,
0x4a2000c01812880,
0x142000c801905080,
0xca0404001940808,
0x3422080001a11040,
0x1088200182001a11,
0x8032810200ca04,
0x20404019020200ca,
0x14c010102020530,
0x1802020502053004,
0x4110b02088580,
0x1800214102141300,
0x20440043021a0440,
0x868110220021a,
0x3080088102205840,
0x2088582216001,
0x2290302290300,
0x3025102510006,
0x10a0982600085,
0x828400182840019,
0x20205302980202,
0x161001102c20022,
0x240c001103000452,
0x1440018103025100,
0x40019050320a100,
0x1408080303281010,
0x441000d03422080,
0x1080032084001905,
0x1104003404003422,
0x440b08400440b,
0x1006502004019408,
0x808032804040194,
0x2980202004040a60,
0x4040a6040a6008,
0x82216004110b00,
0x4282604282600,
0x880086804340880,
0x10d022004400434,
0x1001102c0440b080,
0x342208441000d,
0x4110b00442c002,
0x45206004520600,
0x604a2004a2000c,
0x21413004c0010a,
0xc0010a08504c001,
0x508003205080032,
0x4040a6005300404,
0x42c002085800411,
0x2c20022005840044,
0x1800229060008a4,
0x80030250604a200,
0x320a106414200,
0x101006506502020,
0x1022002186811001,
0x82001a106844100,
0x1100060488003025,
0x100064140800320a,
0x2080068408006844,
0x4340888008681,
0x88161008008816,
0xca040408032810,
0x100650208080328,
0x3004040a080814c0,
0x80814c00814c010,
0x1840044088161001,
0x1000d08882001a1,
0x10442c0008221600,
0x8504c008504c00,
0x2001044288580041,
0x10010d0208681100,
0x21a0440008800868,
0x22058408816100,
0x6844100882001a,
0x822160008858004,
0x8a40c0008a40c00,
0xc09440009440018,
0x428260009800214,
0x214130a098002,
0x210006410a100064,
0x114818a40c001,
0x814c010a600808,
0x58004110b000822,
0x400440b0b080088,
0x300045200c001148,
0x604a20c094400,
0x6414200c828400,
0x20200ca00ca04040,
0x44004340d022002,
0x40034220d088200,
0x2000c0941000604a,
0xc828410006414,
0x1000d0881000d088,
0x86811010010d02,
0x1102c2001001102c,
0x1940808010065020,
0x200ca04010100650,
0x80814c10102980,
0x102980210298020,
0x8008816102c2002,
0x20008a4090300045,
0x2001a11010400342,
0x885800410442c00,
0x1905090508003,
0x10a0980010a09800,
0x20885810b00082,
0x21a04410d02200,
0x34088008110010d0,
0x440b0801102c200,
0xd08820011040034,
0x442c002110b0008,
0x1481800211481800,
0x128800312880030,
0x504c00113000428,
0x80803294080803,
0x42826014130004,
0x2000c828142000c8,
0x1812894400181,
0x22903014818002,
0x1029802014c01010,
0x3000822116001044,
0x8816116100110,
0x2000850498002141,
0x8a40c18002290,
0x40a60098020205,
0xc0944018128800,
0xc82840019050800,
0x401940819408080,
0x80086811a044004,
0x684411a110400,
0x1812882000c094,
0x19050802000c828,
0x1a11042001a110,
0x10d0220020021a04,
0x2058400420022058,
0x28101006200ca040,
0x194080820200ca0,
0x1010298020205300,
0x194080a0404019,
0x28110010a0440043,
0x2053004020530040,
0x1102c220584004,
0x1148182060008a,
0x34220820800684,
0x10b0008220885800,
0x1300042a0980021,
0x320a1020a10006,
0x24142000a1000641,
0x41000d0a1104003,
0x1413000421413000,
0x4110b0021600104,
0x434088021a04400,
0x944001a2000c09,
0x110010d220021a0,
0x816100122058400,
0x2110400322080068,
0x858004122160010,
0x1030004522903000,
0x8180022a40c0011,
0x2510006025100060,
0x2098002126000850,
0x101029a6008081,
0x1010065028101006,
0x8504c0028260008,
0x19050828400190,
0x30251028800302,
0x452060029030004,
0x530040429802020,
0x10442c2c002088,
0x1102c202c200220,
0x10a09830004282,
0x114818030004520,
0x110b000b0008221,
0x814c0103004040a,
0x1812880030251000,
0xb08008b0800881,
0x10508003320a1000,
0x32810132810100,
0x10d02234088008,
0xd0882034220800,
0x2826000c0010a09,
0x12060008c0011481,
0x302510040018128,
0x320a100040019050,
0x2c00208c0020885,
0x342208040034220,
0x1a04400440043408,
0xb080088400440b0,
0x13004040c0101029,
0x20200ca40194080,
0x3281010040401940,
0x20530044040a600,
0x328101040808032,
0x220021a40880086,
0xa2000c0c0944001,
0xa60080840a60080,
0x220584040b08008,
0x229030040c00114,
0x684410041000d08,
0x160010444110b000,
0x2600085041300042,
0x64142004142000c,
0x284001942000c82,
0x2002205c2002205,
0x2001a1142208006,
0x260008542826000,
0x221600142c00208,
0x681100143408800,
0x1288003044001812,
0x220021a044004340,
0x2c20022440b0800,
0x22080068441000d0,
0xb000822442c0020,
0x60008a445206000,
0x300045248180022,
0x2000c82c8284001,
0xa040401ca040401,
0x22000c094a2000c0,
0x130004284c0010a0,
0x20205304c010102,
0x200ca045020200c,
0x3408800d0220021,
0xa098002504c0010,
0x320a10050800320,
0x2208006d0882001,
0x604a20051000604,
0xa40c00152060008,
0x2600808153004040,
0x208858058004110,
0x2205840058400440,
0x214130060008504,
0x2290300060008a40,
0x2216001060010442,
0x298020260080814,
0x2510006604a2000,
0x1610011061001102,
0xa10006464142000,
0x650202065020200,
0x21a044068110010,
0x1a11040068441000]
noncomputable def fcMem (x:Nat) (l:List Nat):Bool:=List.rec false (fun y _ ih=>cond (Nat.beq x y) true ih) l
theorem fcMem_spec {x:Nat}:∀ {l:List Nat},fcMem x l=true->x∈l
 | [],h=>nomatch h
 | y::l,h=>by
  have h':cond (Nat.beq x y) true (fcMem x l)=true:=h
  cases e:Nat.beq x y with
  | true=>rw [Nat.eq_of_beq_eq_true e]; exact List.mem_cons_self
  | false=>rw [e] at h'; exact List.mem_cons_of_mem _ (fcMem_spec h')
noncomputable def fcEach {α:Type} (p:α->Bool) (l:List α):Bool:=List.rec true (fun y _ ih=>cond (p y) ih false) l
theorem fcEach_spec {α:Type} {p:α->Bool}:∀ {l:List α},fcEach p l=true->∀ x∈l,p x=true
 | [],_,_,h=>nomatch h
 | y::l,h,x,hx=>by
  have h':cond (p y) (fcEach p l) false=true:=h
  cases e:p y with
  | false=>rw [e] at h'; cases h'
  | true =>
   rw [e] at h'
   rcases List.mem_cons.mp hx with rfl | hx
   · exact e
   · exact fcEach_spec h' x hx
noncomputable def fcPr (x:Nat):Bool:=cond (fcPg (Nat.div x 2147483648)) (sortI (fcFiv (Nat.mod x 2147483648)) == fcNou (Nat.div x 2147483648)) false
noncomputable def fcOt (t b:Nat):Nat:=Nat.add (Nat.mod b 5) (Nat.add (Nat.mul 5 (Nat.mod (fcSt t 5 b) 5)) (Nat.mul 25 (Nat.mod (fcSt t 10 b) 5)))
noncomputable def fcMul (a n:Nat):Nat:=Nat.add (Nat.mod (Nat.mul a (Nat.mod n 5)) 5) (Nat.add (Nat.mul 5 (Nat.mod (Nat.mul a (Nat.mod (Nat.div n 5) 5)) 5)) (Nat.mul 25 (Nat.mod (Nat.mul a (Nat.div n 25)) 5)))
noncomputable def fc1 (r:FcR) (b:Nat):Bool:=cond (fcMem (Nat.add (fcMask r.t 31 (fcOt r.t (Nat.succ b))) (Nat.mul 2147483648 (fcMask r.t 31 (Nat.succ b)))) fcPrs) (Nat.beq (fcSt r.t 31 (Nat.succ b)) (fcMul r.a (Nat.succ b))) false
noncomputable def fcRu (r:FcR):Bool:=cond (fcTab r.t r.a r.b r.c) (fcAll 124 (fc1 r)) false
noncomputable def fcLin (s0 s1 s2 f0 f1 f2:Nat):Nat:=Nat.mod (Nat.add (Nat.mul f0 (Nat.add (Nat.mul 2 s0) (Nat.add s1 (Nat.mul 2 s2)))) (Nat.add (Nat.mul f1 (Nat.add s0 (Nat.add s1 (Nat.mul 2 s2)))) (Nat.mul f2 (Nat.mul 2 (Nat.add s0 (Nat.add s1 s2)))))) 5
noncomputable def fcLum (f0 f1 f2:Nat):Nat:=Nat.mod (Nat.add (Nat.mul 4 f1) f2) 5
noncomputable def fcBg (s:FcS) (f0 f1 f2:Nat):Nat:=Nat.add (fcLum f0 f1 f2) (Nat.add (Nat.mul 5 (fcLin s.s0 s.s1 s.s2 f0 f1 f2)) (Nat.mul 25 (fcLin s.q0 s.q1 s.q2 f0 f1 f2)))
noncomputable def fc2f (t b:Nat) (o1 o2:Nat):Bool:=cond (Nat.beq b 0) false (cond (Nat.beq o1 (Nat.mod (fcSt t 5 b) 5)) (Nat.beq o2 (Nat.mod (fcSt t 10 b) 5)) false)
noncomputable def fc2 (t:Nat) (s:FcS) (p:Nat):Bool:=fc2f t (fcBg s (Nat.div (Nat.succ p) 25) (Nat.mod (Nat.div (Nat.succ p) 5) 5) (Nat.mod (Nat.succ p) 5))
 (fcLin s.s2 s.s0 s.s1 (Nat.div (Nat.succ p) 25) (Nat.mod (Nat.div (Nat.succ p) 5) 5) (Nat.mod (Nat.succ p) 5)) (fcLin s.q2 s.q0 s.q1 (Nat.div (Nat.succ p) 25) (Nat.mod (Nat.div (Nat.succ p) 5) 5) (Nat.mod (Nat.succ p) 5))
noncomputable def fcV (a b c:Nat):Nat->Int:=v3 (Int.ofNat a) (Int.ofNat b) (Int.ofNat c)
noncomputable def fcBig (x:Int):Bool:=decide (-100000<x) && decide (x<100000)
noncomputable def fcS (r:FcR) (s:FcS):Bool :=
 let st:=fcV s.s0 s.s1 s.s2
 let sq:=fcV s.q0 s.q1 s.q2
 decide (s.s0<5) && decide (s.s1<5) && decide (s.s2<5) && decide (s.q0<5) && decide (s.q1<5) && decide (s.q2<5) &&
 (tmV st st 0 1 2 == Int.ofNat s.q0) && (tmV st st 1 2 0 == Int.ofNat s.q1) && (tmV st st 2 0 1 == Int.ofNat s.q2) &&
 (tmV (trn st) (trn st) 0 1 2 == Int.ofNat s.q2) && (tmV (trn st) (trn st) 1 2 0 == Int.ofNat s.q0) && (tmV (trn st) (trn st) 2 0 1 == Int.ofNat s.q1) &&
 fcBig (ruF st 0) && fcBig (ruF st 1) && fcBig (ruF st 2) &&
 (times st (times sq sq) 0 == trn st 0) && (times st (times sq sq) 1 == trn st 1) && (times st (times sq sq) 2 == trn st 2) &&
 (nrm st 0 == Int.ofNat r.a) && (nrm st 1 == Int.ofNat r.a) && (nrm st 2 == Int.ofNat r.a) && decide (0<r.a) && decide (r.a<5) &&
 ((ruF st 1).fmod 5 == Int.ofNat r.b) && ((ruF st 2).fmod 5 == Int.ofNat r.c)
noncomputable def fcTu (s:FcS):Bool:=turnedIs (fcV s.s0 s.s1 s.s2) (Int.ofNat s.s2) (Int.ofNat s.s0) (Int.ofNat s.s1)
noncomputable def fcLu (n:Nat):Bool:=lumaIs (fcV (Nat.div n 25) (Nat.mod (Nat.div n 5) 5) (Nat.mod n 5)) (Int.ofNat (fcLum (Nat.div n 25) (Nat.mod (Nat.div n 5) 5) (Nat.mod n 5)))
noncomputable def fcAt (i:Nat):FcR:=fcRus.getD i ⟨0,0,0,0⟩
section
variable [Bs]
theorem fc_cut {α:Type} {p:α->Bool} (n:Nat) {l:List α} (h1:fcEach p (l.take n)=true) (h2:fcEach p (l.drop n)=true):fcEach p l=true:=by
 induction n generalizing l with
 | zero=>exact h2
 | succ n ih =>
  cases l with
  | nil=>exact h2
  | cons y l =>
   have h1':cond (p y) (fcEach p (l.take n)) false=true:=h1
   show cond (p y) (fcEach p l) false=true
   cases e:p y with
   | false=>rw [e] at h1'; exact h1'
   | true=>rw [e] at h1'; exact ih h1' h2
theorem fc_prs:fcEach fcPr fcPrs=true:=by kernel_rfl
theorem fc_rus1:fcEach fcRu (fcRus.take 20)=true:=by kernel_rfl
theorem fc_rus2:fcEach fcRu (fcRus.drop 20)=true:=by kernel_rfl
theorem fc_rus:fcEach fcRu fcRus=true:=fc_cut 20 fc_rus1 fc_rus2
theorem fc_rows:fcEach (fun s=>fcS (fcAt s.i) s) fcRows=true:=by kernel_rfl
theorem fc_two:fcEach (fun s=>fcAll 124 (fc2 (fcAt s.i).t s)) fcRows=true:=by kernel_rfl
theorem fc_lum:fcAll 125 fcLu=true:=by kernel_rfl
theorem fc_tur1:fcEach fcTu (fcRows.take 30)=true:=by kernel_rfl
theorem fc_tur2:fcEach fcTu ((fcRows.drop 30).take 30)=true:=by kernel_rfl
theorem fc_tur3:fcEach fcTu (((fcRows.drop 30).drop 30).take 30)=true:=by kernel_rfl
theorem fc_tur4:fcEach fcTu (((fcRows.drop 30).drop 30).drop 30)=true:=by kernel_rfl
theorem fc_tur:fcEach fcTu fcRows=true:=fc_cut 30 fc_tur1 (fc_cut 30 fc_tur2 (fc_cut 30 fc_tur3 fc_tur4))
noncomputable def fcMem3 (x:FcS) (l:List FcS):Bool:=List.rec false (fun y _ ih=>cond (Nat.beq y.s0 x.s2) (cond (Nat.beq y.s1 x.s0) (cond (Nat.beq y.s2 x.s1) true ih) ih) ih) l
theorem fcMem3_spec {x:FcS}:∀ {l:List FcS},fcMem3 x l=true->∃ y,y∈l∧y.s0=x.s2∧y.s1=x.s0∧y.s2=x.s1
 | [],h=>nomatch h
 | y::l,h=>by
  have rest:fcMem3 x l=true->∃ y',y'∈y::l∧y'.s0=x.s2∧y'.s1=x.s0∧y'.s2=x.s1:=fun h=>by
   obtain ⟨y',h1,h2⟩:=fcMem3_spec h
   exact ⟨y',List.mem_cons_of_mem _ h1,h2⟩
  have h':cond (Nat.beq y.s0 x.s2) (cond (Nat.beq y.s1 x.s0) (cond (Nat.beq y.s2 x.s1) true (fcMem3 x l)) (fcMem3 x l)) (fcMem3 x l)=true:=h
  cases e0:Nat.beq y.s0 x.s2 with
  | false=>rw [e0] at h'; exact rest h'
  | true =>
  cases e1:Nat.beq y.s1 x.s0 with
  | false=>rw [e0,e1] at h'; exact rest h'
  | true =>
  cases e2:Nat.beq y.s2 x.s1 with
  | false=>rw [e0,e1,e2] at h'; exact rest h'
  | true=>exact ⟨y,List.mem_cons_self,Nat.eq_of_beq_eq_true e0,Nat.eq_of_beq_eq_true e1,Nat.eq_of_beq_eq_true e2⟩
theorem fc_row2:fcEach (fun s=>fcMem3 s fcRows) fcRows=true:=by kernel_rfl
theorem fcMask_lt (t:Nat):∀ m n:Nat,fcMask t m n<2 ^ m
 | 0,_=>by show 0<1; decide
 | m + 1,n=>by
  have ih:=fcMask_lt t m (fcLook t n)
  show (1 - n % 5) + 2 * fcMask t m (fcLook t n)<2 ^ (m + 1)
  rw [Nat.pow_succ]
  exact om66 ih
theorem fcV_sm {a b c:Nat} (ha:a<5) (hb:b<5) (hc:c<5):Sm (fcV a b c):=sm_v3 ⟨Int.natCast_nonneg _,Int.ofNat_lt.mpr ha⟩ ⟨Int.natCast_nonneg _,Int.ofNat_lt.mpr hb⟩ ⟨Int.natCast_nonneg _,Int.ofNat_lt.mpr hc⟩
theorem fcLum_eq (a b c:Nat):plumaV (fcV a b c)=Int.ofNat (fcLum a b c):=by
 show (30 * (a:Int) + 59 * (b:Int) + 11 * (c:Int)).fmod 5=(((4 * b + c) % 5:Nat):Int)
 rw [fmod5_eq]
 exact om67
theorem fcLin_eq (s0 s1 s2 f0 f1 f2:Nat):plumaV (times (fcV f0 f1 f2) (fcV s0 s1 s2))=Int.ofNat (fcLin s0 s1 s2 f0 f1 f2):=by
 have e:(fcLin s0 s1 s2 f0 f1 f2:Nat)=(2 * (f0 * s0) + f0 * s1 + 2 * (f0 * s2) + (f1 * s0 + f1 * s1 + 2 * (f1 * s2)) + (2 * (f2 * s0) + 2 * (f2 * s1) + 2 * (f2 * s2))) % 5:=by
  show (f0 * (2 * s0 + (s1 + 2 * s2)) + (f1 * (s0 + (s1 + 2 * s2)) + f2 * (2 * (s0 + (s1 + s2))))) % 5=_
  congr 1
  rw [show f0 * (2 * s0 + (s1 + 2 * s2))=2 * (f0 * s0) + (f0 * s1 + 2 * (f0 * s2)) by rw [Nat.mul_add,Nat.mul_add,Nat.mul_left_comm,Nat.mul_left_comm f0 2 s2],show f1 * (s0 + (s1 + 2 * s2))=f1 * s0 + (f1 * s1 + 2 * (f1 * s2)) by rw [Nat.mul_add,Nat.mul_add,Nat.mul_left_comm f1 2 s2],show f2 * (2 * (s0 + (s1 + s2)))=2 * (f2 * s0) + (2 * (f2 * s1) + 2 * (f2 * s2)) by simp only [Nat.mul_left_comm f2 2,Nat.mul_add]]
  exact om68
 rw [e]
 unfold plumaV times tmV
 show (30 * (4 * (f0:Int) * (s0:Int) + 2 * (f1:Int) * (s1:Int) + 2 * ((f2:Int) * (s0:Int) + (f0:Int) * (s2:Int)) + 3 * ((f1:Int) * (s2:Int) + (f2:Int) * (s1:Int))).fmod 5 +
  59 * (4 * (f1:Int) * (s1:Int) + 2 * (f2:Int) * (s2:Int) + 2 * ((f0:Int) * (s1:Int) + (f1:Int) * (s0:Int)) + 3 * ((f2:Int) * (s0:Int) + (f0:Int) * (s2:Int))).fmod 5 +
  11 * (4 * (f2:Int) * (s2:Int) + 2 * (f0:Int) * (s0:Int) + 2 * ((f1:Int) * (s2:Int) + (f2:Int) * (s1:Int)) + 3 * ((f0:Int) * (s1:Int) + (f1:Int) * (s0:Int))).fmod 5).fmod 5=(((2 * (f0 * s0) + f0 * s1 + 2 * (f0 * s2) + (f1 * s0 + f1 * s1 + 2 * (f1 * s2)) + (2 * (f2 * s0) + 2 * (f2 * s1) + 2 * (f2 * s2))) % 5:Nat):Int)
 simp only [fmod5_eq,Int.mul_assoc,← Int.natCast_mul]
 generalize f0 * s0=m00
 generalize f0 * s1=m01
 generalize f0 * s2=m02
 generalize f1 * s0=m10
 generalize f1 * s1=m11
 generalize f1 * s2=m12
 generalize f2 * s0=m20
 generalize f2 * s1=m21
 generalize f2 * s2=m22
 exact om69
theorem fcDig_of {a b c:Nat} (ha:a<5) (hb:b<5):fcDig (a + (5 * b + 25 * c))=fcV a b c:=by
 unfold fcDig fcV
 refine v3_eq ?_ ?_ ?_ <;> congr 1 <;> omega
theorem fcSm_lum {g:Nat->Int} {x y z:Int} (e:g=v3 x y z) (h:Sm g):lumaIs g (plumaV g)=true:=by
 subst e
 have hx:=h 0
 have hy:=h 1
 have hz:=h 2
 change 0≤x∧x<5 at hx
 change 0≤y∧y<5 at hy
 change 0≤z∧z<5 at hz
 obtain ⟨a,rfl⟩:=Int.eq_ofNat_of_zero_le hx.1
 obtain ⟨b,rfl⟩:=Int.eq_ofNat_of_zero_le hy.1
 obtain ⟨c,rfl⟩:=Int.eq_ofNat_of_zero_le hz.1
 have k:=fcAll_spec fc_lum (25 * a + (5 * b + c)) (by exact om70 hx hy hz)
 unfold fcLu at k
 rw [show Nat.div (25 * a + (5 * b + c)) 25=a by show (25 * a + (5 * b + c)) / 25=a; exact om71 hy hz,show Nat.mod (Nat.div (25 * a + (5 * b + c)) 5) 5=b by show (25 * a + (5 * b + c)) / 5 % 5=b; exact om72 hy hz,show Nat.mod (25 * a + (5 * b + c)) 5=c by show (25 * a + (5 * b + c)) % 5=c; exact om73 hz] at k
 rw [← fcLum_eq] at k
 exact k
theorem times_v3 (a b:Nat->Int):times a b=v3 (tmV a b 0 1 2) (tmV a b 1 2 0) (tmV a b 2 0 1):=rfl
theorem fcBig_ok {x:Int} (h:fcBig x=true):-100000<x∧x<100000:=by
 unfold fcBig at h
 rw [Bool.and_eq_true,decide_eq_true_eq,decide_eq_true_eq] at h
 exact h
theorem fcAnd {a b:Bool} (h:cond a b false=true):a=true∧b=true:=by
 cases a with
 | false=>cases h
 | true=>exact ⟨rfl,h⟩
theorem fcNot {a b:Bool} (h:cond a false b=true):a=false∧b=true:=by
 cases a with
 | true=>cases h
 | false=>exact ⟨rfl,h⟩
theorem fc_main {s:FcS} (hs:s∈fcRows) (hr:fcAt s.i∈fcRus) {p:Nat} (hp:p<124):Fac (fcV ((p + 1) / 25) ((p + 1) / 5 % 5) ((p + 1) % 5)) (fcV s.s0 s.s1 s.s2):=by
 have kS:=fcEach_spec fc_rows s hs
 have kT:=fcEach_spec fc_tur s hs
 have k2:=fcAll_spec (fcEach_spec fc_two s hs) p hp
 have kR:=fcEach_spec fc_rus _ hr
 have hs':s∈fcRows:=hs
 have kT2:turnedIs (fcV s.s2 s.s0 s.s1) (Int.ofNat s.s1) (Int.ofNat s.s2) (Int.ofNat s.s0)=true:=by
  have:=fcEach_spec fc_row2 s hs
  have m:=fcMem3_spec this
  obtain ⟨s',h1,h2,h3,h4⟩:=m
  have:=fcEach_spec fc_tur s' h1
  unfold fcTu at this
  rw [h2,h3,h4] at this
  exact this
 generalize fcAt s.i=r at kS kR k2
 unfold fcS at kS
 simp only [Bool.and_eq_true,decide_eq_true_eq,beq_iff_eq] at kS
 obtain ⟨⟨⟨⟨⟨⟨⟨⟨⟨⟨⟨⟨⟨⟨⟨⟨⟨⟨⟨⟨⟨⟨⟨⟨x0,x1⟩,x2⟩,y0⟩,y1⟩,y2⟩,a0⟩,a1⟩,a2⟩,b0⟩,b1⟩,b2⟩,g0⟩,g1⟩,g2⟩,v0⟩,v1⟩,v2⟩,n0⟩,n1⟩,n2⟩,np⟩,n5⟩,ub⟩,uc⟩:=kS
 change fc2f r.t (fcLum ((p + 1) / 25) ((p + 1) / 5 % 5) ((p + 1) % 5) + (5 * fcLin s.s0 s.s1 s.s2 ((p + 1) / 25) ((p + 1) / 5 % 5) ((p + 1) % 5) + 25 * fcLin s.q0 s.q1 s.q2 ((p + 1) / 25) ((p + 1) / 5 % 5) ((p + 1) % 5))) (fcLin s.s2 s.s0 s.s1 ((p + 1) / 25) ((p + 1) / 5 % 5) ((p + 1) % 5)) (fcLin s.q2 s.q0 s.q1 ((p + 1) / 25) ((p + 1) / 5 % 5) ((p + 1) % 5))=true at k2
 have hf0:(p + 1) / 25<5:=by exact om74 hp
 have hf1:(p + 1) / 5 % 5<5:=Nat.mod_lt _ (by decide)
 have hf2:(p + 1) % 5<5:=Nat.mod_lt _ (by decide)
 generalize (p + 1) / 25=f0 at *
 generalize (p + 1) / 5 % 5=f1 at *
 generalize (p + 1) % 5=f2 at *
 have eqq:times (fcV s.s0 s.s1 s.s2) (fcV s.s0 s.s1 s.s2)=fcV s.q0 s.q1 s.q2:=v3_eq a0 a1 a2
 have eqt:times (trn (fcV s.s0 s.s1 s.s2)) (trn (fcV s.s0 s.s1 s.s2))=fcV s.q2 s.q0 s.q1:=v3_eq b0 b1 b2
 have etr:trn (fcV s.s0 s.s1 s.s2)=fcV s.s2 s.s0 s.s1:=rfl
 obtain ⟨kt,kR'⟩:=fcAnd kR
 have ru0:ruF (fcV s.s0 s.s1 s.s2) 0=nrm (fcV s.s0 s.s1 s.s2) 0:=rfl
 have T:FcT (ruF (fcV s.s0 s.s1 s.s2)) r.t:=fcT_of (by rw [ru0,n0,fmod5_eq]; show (r.a:Int) % 5=r.a; exact om75 n5) ub uc kt
 have hSf:=fcV_sm hf0 hf1 hf2
 have hSs:=fcV_sm x0 x1 x2
 have eB0:=fcLum_eq f0 f1 f2
 have eB1:=fcLin_eq s.s0 s.s1 s.s2 f0 f1 f2
 have eB2:=fcLin_eq s.q0 s.q1 s.q2 f0 f1 f2
 have eO1:=fcLin_eq s.s2 s.s0 s.s1 f0 f1 f2
 have eO2:=fcLin_eq s.q2 s.q0 s.q1 f0 f1 f2
 have lB0:fcLum f0 f1 f2<5:=Nat.mod_lt _ (by decide)
 have lB1:fcLin s.s0 s.s1 s.s2 f0 f1 f2<5:=Nat.mod_lt _ (by decide)
 have lB2:fcLin s.q0 s.q1 s.q2 f0 f1 f2<5:=Nat.mod_lt _ (by decide)
 have lO1:fcLin s.s2 s.s0 s.s1 f0 f1 f2<5:=Nat.mod_lt _ (by decide)
 have lO2:fcLin s.q2 s.q0 s.q1 f0 f1 f2<5:=Nat.mod_lt _ (by decide)
 have eBg:bgF (fcV f0 f1 f2) (fcV s.s0 s.s1 s.s2)=fcV (fcLum f0 f1 f2) (fcLin s.s0 s.s1 s.s2 f0 f1 f2) (fcLin s.q0 s.q1 s.q2 f0 f1 f2):=by
  unfold bgF
  rw [eqq,eB0,eB1,eB2]
  rfl
 have eOt:otF (fcV f0 f1 f2) (fcV s.s0 s.s1 s.s2)=fcV (fcLum f0 f1 f2) (fcLin s.s2 s.s0 s.s1 f0 f1 f2) (fcLin s.q2 s.q0 s.q1 f0 f1 f2):=by
  unfold otF
  rw [eqt,etr,eB0,eO1,eO2]
  rfl
 rw [← fcDig_of lB0 lB1] at eBg
 rw [← fcDig_of lB0 lO1] at eOt
 generalize fcLum f0 f1 f2=B0 at *
 generalize fcLin s.s0 s.s1 s.s2 f0 f1 f2=B1 at *
 generalize fcLin s.q0 s.q1 s.q2 f0 f1 f2=B2 at *
 generalize fcLin s.s2 s.s0 s.s1 f0 f1 f2=O1 at *
 generalize fcLin s.q2 s.q0 s.q1 f0 f1 f2=O2 at *
 have lbg:B0 + (5 * B1 + 25 * B2)<125:=by exact om76 lB0 lB1 lB2
 have lot:B0 + (5 * O1 + 25 * O2)<125:=by exact om76 lB0 lO1 lO2
 have ebm:(B0 + (5 * B1 + 25 * B2)) % 5=B0:=by exact om77 lB0
 generalize B0 + (5 * B1 + 25 * B2)=bg at *
 obtain ⟨z0,k2⟩:=fcNot k2
 obtain ⟨z1,k2⟩:=fcAnd k2
 have w1:=Nat.eq_of_beq_eq_true z1
 have w2:=Nat.eq_of_beq_eq_true k2
 cases bg with
 | zero=>cases z0
 | succ b =>
 have k1:=fcAll_spec kR' b (by exact om78 lbg)
 obtain ⟨z2,k1⟩:=fcAnd k1
 have eo:fcOt r.t (Nat.succ b)=B0 + (5 * O1 + 25 * O2):=by
  show (b + 1) % 5 + (5 * ((fcSt r.t 5 (b + 1)) % 5) + 25 * ((fcSt r.t 10 (b + 1)) % 5))=_
  rw [ebm]
  have w1':O1=fcSt r.t 5 (b + 1) % 5:=w1
  have w2':O2=fcSt r.t 10 (b + 1) % 5:=w2
  rw [← w1',← w2']
 rw [eo] at z2
 generalize B0 + (5 * O1 + 25 * O2)=ot at *
 have w3:=Nat.eq_of_beq_eq_true k1
 have k3:=fcEach_spec fc_prs _ (fcMem_spec z2)
 have mlt:∀ n,fcMask r.t 31 n<2147483648:=fun n=>fcMask_lt r.t 31 n
 have md:Nat.div (Nat.add (fcMask r.t 31 ot) (Nat.mul 2147483648 (fcMask r.t 31 (Nat.succ b)))) 2147483648=fcMask r.t 31 (Nat.succ b):=by
  show (fcMask r.t 31 ot + 2147483648 * fcMask r.t 31 (Nat.succ b)) / 2147483648=_
  have:=mlt ot
  exact om79 this
 have mm:Nat.mod (Nat.add (fcMask r.t 31 ot) (Nat.mul 2147483648 (fcMask r.t 31 (Nat.succ b)))) 2147483648=fcMask r.t 31 ot:=by
  show (fcMask r.t 31 ot + 2147483648 * fcMask r.t 31 (Nat.succ b)) % 2147483648=_
  have:=mlt ot
  exact om80 this
 obtain ⟨z3,k3⟩:=fcAnd k3
 rw [md] at z3
 rw [md,mm] at k3
 have k4:sortI (fcFiv (fcMask r.t 31 ot))=fcNou (fcMask r.t 31 (Nat.succ b)):=eq_of_beq k3
 have tB:=fc_tell T 31 [] (Nat.succ b) lbg
 have tO:=fc_tell T 31 [] ot lot
 rw [List.nil_append] at tB tO
 have lenB:=fcTold_len r.t 31 (Nat.succ b)
 have lenO:=fcTold_len r.t 31 ot
 have hn:∀ j,nrm (fcV s.s0 s.s1 s.s2) j=(r.a:Int):=fun j=>by
  match j with
  | 0=>exact n0
  | 1=>exact n1
  | j + 2=>exact n2
 refine { sf:=hSf,ss:=hSs,rs:=?_,t1:=?_,t2:=?_,five:=?_,grey:=?_,lum0:=?_,lum1:=?_,lum2:=?_,endd:=?_,page:=?_,other:=?_ }
 · intro j
   match j with
   | 0=>exact fcBig_ok g0
   | 1=>exact fcBig_ok g1
   | j + 2=>exact fcBig_ok g2
 · exact kT
 · exact kT2
 · intro j hj
   rw [eqq]
   match j,hj with
   | 0,_=>exact v0
   | 1,_=>exact v1
   | 2,_=>exact v2
 · refine ⟨(r.a:Int),?_,fun j _=>hn j⟩
   exact om81 n5 np
 · exact fcSm_lum rfl hSf
 · exact fcSm_lum rfl (sm_times _ _)
 · exact fcSm_lum rfl (sm_times _ _)
 · intro j hj
   rw [eBg,tB,hn]
   show fcDig (fcSt r.t 31 (Nat.succ b)) j=_
   rw [w3]
   show fcDig (fcMul r.a (b + 1)) j=((r.a:Int) * fcDig (b + 1) j).fmod 5
   generalize b + 1=n
   have e1:fcMul r.a n % 5=r.a * (n % 5) % 5:=by
    show (r.a * (n % 5) % 5 + (5 * (r.a * (n / 5 % 5) % 5) + 25 * (r.a * (n / 25) % 5))) % 5=_
    exact om82
   have e2:fcMul r.a n / 5 % 5=r.a * (n / 5 % 5) % 5:=by
    show (r.a * (n % 5) % 5 + (5 * (r.a * (n / 5 % 5) % 5) + 25 * (r.a * (n / 25) % 5))) / 5 % 5=_
    generalize r.a * (n % 5)=x
    generalize r.a * (n / 5 % 5)=y
    generalize r.a * (n / 25)=z
    exact om83
   have e3:fcMul r.a n / 25=r.a * (n / 25) % 5:=by
    show (r.a * (n % 5) % 5 + (5 * (r.a * (n / 5 % 5) % 5) + 25 * (r.a * (n / 25) % 5))) / 25=_
    generalize r.a * (n % 5)=x
    generalize r.a * (n / 5 % 5)=y
    generalize r.a * (n / 25)=z
    exact om84
   rw [fmod5_eq]
   match j,hj with
   | 0,_ =>
    show ((fcMul r.a n % 5:Nat):Int)=(r.a:Int) * ((n % 5:Nat):Int) % 5
    rw [e1,Int.natCast_emod,Int.natCast_mul]
    rfl
   | 1,_ =>
    show ((fcMul r.a n / 5 % 5:Nat):Int)=(r.a:Int) * ((n / 5 % 5:Nat):Int) % 5
    rw [e2,Int.natCast_emod,Int.natCast_mul]
    rfl
   | 2,_ =>
    show ((fcMul r.a n / 25:Nat):Int)=(r.a:Int) * ((n / 25:Nat):Int) % 5
    rw [e3,Int.natCast_emod,Int.natCast_mul]
    rfl
 · rw [eBg,tB]
   exact fc_pg lenB (fcTold_lt _ _ _) (by rw [← fc_mask]; exact z3)
 · rw [eBg,eOt,tB,tO]
   show sortI (fiv ((fcTold r.t 31 ot).map Int.ofNat))=nou ((fcTold r.t 31 (Nat.succ b)).map Int.ofNat)
   rw [fc_fiv lenO,fc_nou lenB,← fc_mask,← fc_mask]
   exact k4
noncomputable def fcRow (k:Nat):FcS:=fcRows.getD k ⟨0,0,0,0,0,0,0⟩
noncomputable def fcRowIs (k:Nat):Bool:=cond (Nat.beq (fcRow k).s0 (k / 24)) (cond (Nat.beq (fcRow k).s1 ((k / 24 + (k % 24 + 1) / 5) % 5)) (cond (Nat.beq (fcRow k).s2 ((k / 24 + (k % 24 + 1) % 5) % 5)) (Nat.ble (Nat.succ (fcRow k).i) 40) false) false) false
theorem fc_rowIs:fcAll 120 fcRowIs=true:=by kernel_rfl
theorem fcRows_len:fcRows.length=120:=by kernel_rfl
theorem fcRus_len:fcRus.length=40:=by kernel_rfl
theorem getD_mem {α:Type} {l:List α} {k:Nat} {d:α} (h:k<l.length):l.getD k d∈l:=by
 rw [List.getD_eq_getElem?_getD,List.getElem?_eq_getElem h]
 exact List.getElem_mem h
theorem fac_all (d0 d1:Int):Fac (fstO d0) (stpO d1):=by
 obtain ⟨p,hp,ep⟩:∃ p:Nat,p<124∧d0.fmod 124=(p:Int):=by
  have a:=Int.fmod_nonneg_of_pos d0 (show (0:Int)<124 by decide)
  have b:=Int.fmod_lt_of_pos d0 (show (0:Int)<124 by decide)
  exact ⟨(d0.fmod 124).toNat,by exact om85 b,by exact om86 a⟩
 obtain ⟨x,hx,ex⟩:∃ p:Nat,p<24∧d1.fmod 24=(p:Int):=by
  have a:=Int.fmod_nonneg_of_pos d1 (show (0:Int)<24 by decide)
  have b:=Int.fmod_lt_of_pos d1 (show (0:Int)<24 by decide)
  exact ⟨(d1.fmod 24).toNat,by exact om87 b,by exact om86 a⟩
 obtain ⟨l,hl,el⟩:∃ p:Nat,p<5∧(d1.fdiv 24).fmod 5=(p:Int):=by
  have a:=Int.fmod_nonneg_of_pos (d1.fdiv 24) (show (0:Int)<5 by decide)
  have b:=Int.fmod_lt_of_pos (d1.fdiv 24) (show (0:Int)<5 by decide)
  exact ⟨((d1.fdiv 24).fmod 5).toNat,by exact om88 b,by exact om86 a⟩
 have e0:fstO d0=fcV ((p + 1) / 25) ((p + 1) / 5 % 5) ((p + 1) % 5):=by
  unfold fstO numO fcV
  rw [ep]
  refine v3_eq ?_ ?_ ?_
  · rw [Int.fdiv_eq_ediv_of_nonneg _ (by decide)]
    show _=(((p + 1) / 25:Nat):Int)
    exact om89
  · rw [Int.fdiv_eq_ediv_of_nonneg _ (by decide),fmod5_eq]
    show _=(((p + 1) / 5 % 5:Nat):Int)
    exact om90
  · rw [fmod5_eq]
    show _=(((p + 1) % 5:Nat):Int)
    exact om91
 have hk:=fcAll_spec fc_rowIs (24 * l + x) (by exact om92 hx hl)
 have hm:fcRow (24 * l + x)∈fcRows:=getD_mem (by rw [fcRows_len]; exact om92 hx hl)
 obtain ⟨q0,hk⟩:=fcAnd hk
 obtain ⟨q1,hk⟩:=fcAnd hk
 obtain ⟨q2,hk⟩:=fcAnd hk
 have hi:fcAt (fcRow (24 * l + x)).i∈fcRus:=getD_mem (by rw [fcRus_len]; exact Nat.le_of_ble_eq_true hk)
 have e1:stpO d1=fcV (fcRow (24 * l + x)).s0 (fcRow (24 * l + x)).s1 (fcRow (24 * l + x)).s2:=by
  rw [Nat.eq_of_beq_eq_true q0,Nat.eq_of_beq_eq_true q1,Nat.eq_of_beq_eq_true q2]
  rw [show (24 * l + x) / 24=l by exact om93 hx,show (24 * l + x) % 24=x by exact om94 hx]
  unfold stpO leaO aboO fcV
  rw [el,ex]
  refine v3_eq rfl ?_ ?_
  · rw [fmod5_eq,Int.fdiv_eq_ediv_of_nonneg _ (by decide)]
    show _=(((l + (x + 1) / 5) % 5:Nat):Int)
    exact om95
  · rw [fmod5_eq,fmod5_eq]
    show _=(((l + (x + 1) % 5) % 5:Nat):Int)
    exact om96
 rw [e0,e1]
 exact fc_main hm hi hp
end
theorem row2 {p:World->Prop} (h1:∀ w b,p (wB w false b)) (h2:∀ w b,p (wB w true b)) (w:World):p w:=by
 rw [wB_eq w]
 cases w.params.followText "special-get-raises" with
 | false=>exact h1 w _
 | true=>exact h2 w _
theorem row4 {p:World->Prop} (h1:∀ w,p (wB w false false)) (h2:∀ w,p (wB w false true)) (h3:∀ w,p (wB w true false)) (h4:∀ w,p (wB w true true)):∀ w,p w :=
 row2 (fun w b=>match b with | false=>h1 w | true=>h2 w) (fun w b=>match b with | false=>h3 w | true=>h4 w)
theorem eqTimesK:TimesK ktL where
 def_:=fun P=>by kernel_rfl
 two:=row2 (by intro w b2 ad t0 g0 a b ta tb n n'; kernel_rfl) (by intro w b2 ad t0 g0 a b ta tb n n'; kernel_rfl)
 one:=row2 (by intro w b2 ad t0 g0 a ta n; kernel_rfl) (by intro w b2 ad t0 g0 a ta n; kernel_rfl)
theorem eqGenK:GenK ktL where
 def1:=fun P=>by kernel_rfl
 def2:=fun P=>by kernel_rfl
 len1:=row2 (by intro w b2 ad t0 g0 x; kernel_rfl) (by intro w b2 ad t0 g0 x; kernel_rfl)
 len2:=row2 (by intro w b2 ad t0 g0 x; kernel_rfl) (by intro w b2 ad t0 g0 x; kernel_rfl)
 str1:=row2 (by intro w b2 ad t0 g0 x; kernel_rfl) (by intro w b2 ad t0 g0 x; kernel_rfl)
 str2:=row2 (by intro w b2 ad t0 g0 x; kernel_rfl) (by intro w b2 ad t0 g0 x; kernel_rfl)
 lenT1:=row2 (by intro w b2 ad t0 g0 x ad' t1 g1 n t; kernel_rfl) (by intro w b2 ad t0 g0 x ad' t1 g1 n t; kernel_rfl)
 lenT2:=row2 (by intro w b2 ad t0 g0 x ad' t1 g1 n t; kernel_rfl) (by intro w b2 ad t0 g0 x ad' t1 g1 n t; kernel_rfl)
 strT1:=row2 (by intro w b2 ad t0 g0 x ad' t1 g1 n t; kernel_rfl) (by intro w b2 ad t0 g0 x ad' t1 g1 n t; kernel_rfl)
 strT2:=row2 (by intro w b2 ad t0 g0 x ad' t1 g1 n t; kernel_rfl) (by intro w b2 ad t0 g0 x ad' t1 g1 n t; kernel_rfl)
 shape1:=row2 (by intro w b2; kernel_rfl) (by intro w b2; kernel_rfl)
 shape2:=row2 (by intro w b2; kernel_rfl) (by intro w b2; kernel_rfl)
 nm1:=row2 (by intro w b2 p L y; kernel_rfl) (by intro w b2 p L y; kernel_rfl)
 nm2:=row2 (by intro w b2 p L y; kernel_rfl) (by intro w b2 p L y; kernel_rfl)
 nm3:=row2 (by intro w b2 p L y; kernel_rfl) (by intro w b2 p L y; kernel_rfl)
theorem eqLenK:LenK ktL where
 sp:=row2 (by intro w b2 p pd vs n; kernel_rfl) (by intro w b2 p pd vs n; kernel_rfl)
 fn:=fun P=>by kernel_rfl
theorem eqPlumaK:PlumaK ktL where
 def_:=fun P=>by kernel_rfl
 all:=row2 (by intro w b2 ad t0 g0 a ta n; kernel_rfl) (by intro w b2 ad t0 g0 a ta n; kernel_rfl)
theorem eqRunK_def_:∀ P,(defAt (ktL P) 251).isSome=true:=fun P=>by kernel_rfl
theorem eqRunK_plain:∀ (w:World) g L it,callerF (LC (ktL w.params) w g L it)=false:=row2 (by intro w b2 g L it; kernel_rfl) (by intro w b2 g L it; kernel_rfl)
theorem eqRunK_seg:∀ (w:World) l ad t0 g0 b r tb tr n n',(runA l (ktL w.params) w ad t0 g0 b r tb tr n n').stq runAF=some (runAX w.params ad (runAx ad t0 b r tb tr n' l) (l3 b tb n) (LC (ktL w.params) w ad (ad 2) (ad 18)),runAO l b,(runA l (ktL w.params) w ad t0 g0 b r tb tr n n').l1,(runA l (ktL w.params) w ad t0 g0 b r tb tr n n').l1):=row4 (by intro w l ad t0 g0 b r tb tr n n'; kernel_rfl) (by intro w l ad t0 g0 b r tb tr n n'; kernel_rfl) (by intro w l ad t0 g0 b r tb tr n n'; kernel_rfl) (by intro w l ad t0 g0 b r tb tr n n'; kernel_rfl)
theorem eqRunK_one:∀ (w:World) l g ad t0 g0 x m,(turnR l (ktL w.params) w g ad t0 g0 (turnL1 w.params ad x (m + 1)) 1040 (oTurn1 (rowC w))).agn0 turnF=some (turnX w.params ad t0 ((x.first t0).v3 51) m (x.c 0) (l.sl 13) (x.τ 16) (LC (ktL w.params) w g (ad 0) (ad 7)),turnO l (ktL w.params) w ad x [],(turnR l (ktL w.params) w g ad t0 g0 (turnL1 w.params ad x (m + 1)) 1040 (oTurn1 (rowC w))).l1,(turnR l (ktL w.params) w g ad t0 g0 (turnL1 w.params ad x (m + 1)) 1040 (oTurn1 (rowC w))).l1):=row4 (by intro w l g ad t0 g0 x m; kernel_rfl) (by intro w l g ad t0 g0 x m; kernel_rfl) (by intro w l g ad t0 g0 x m; kernel_rfl) (by intro w l g ad t0 g0 x m; kernel_rfl)
theorem eqRunK_turn:∀ (w:World) l g ad t0 g0 x m,(turnR l (ktL w.params) w g ad t0 g0 (turnL w.params ad x (m + 1)) 1040 (oTurn (rowC w))).agn0 turnF=some (turnX w.params ad t0 (x.v3 52) m (l.sl 14) (l.sl 13) (t0 + 48) (LC (ktL w.params) w g (ad 0) (ad 7)),turnO l (ktL w.params) w ad x [aOk x.told (x.c 0) (l.sl 14)],(turnR l (ktL w.params) w g ad t0 g0 (turnL w.params ad x (m + 1)) 1040 (oTurn (rowC w))).l1,(turnR l (ktL w.params) w g ad t0 g0 (turnL w.params ad x (m + 1)) 1040 (oTurn (rowC w))).l1):=row4 (by intro w l g ad t0 g0 x m; kernel_rfl) (by intro w l g ad t0 g0 x m; kernel_rfl) (by intro w l g ad t0 g0 x m; kernel_rfl) (by intro w l g ad t0 g0 x m; kernel_rfl)
theorem eqRunK_out:∀ (w:World) l g ad t0 g0 x,(turnR l (ktL w.params) w g ad t0 g0 (turnL w.params ad x 0) 25 0xa08080800080008).dn turn0F=some (turn0X w.params ad x,[],(turnR l (ktL w.params) w g ad t0 g0 (turnL w.params ad x 0) 25 0xa08080800080008).l1,(turnR l (ktL w.params) w g ad t0 g0 (turnL w.params ad x 0) 25 0xa08080800080008).l1):=row2 (by intro w b2 l g ad t0 g0 x; kernel_rfl) (by intro w b2 l g ad t0 g0 x; kernel_rfl)
theorem eqRunK_last:∀ (w:World) l g it l0 t0 g0 b r tb tr n n' ad t1 g1 x,(runC l (ktL w.params) w g it l0 t0 g0 b r tb tr n n' ad t1 g1 x).dn runCF=some (runCX ad l t1 x,runCO l (ktL w.params) w x,(runC l (ktL w.params) w g it l0 t0 g0 b r tb tr n n' ad t1 g1 x).l1,(runC l (ktL w.params) w g it l0 t0 g0 b r tb tr n n' ad t1 g1 x).l1):=row4 (by intro w l g it l0 t0 g0 b r tb tr n n' ad t1 g1 x; kernel_rfl) (by intro w l g it l0 t0 g0 b r tb tr n n' ad t1 g1 x; kernel_rfl) (by intro w l g it l0 t0 g0 b r tb tr n n' ad t1 g1 x; kernel_rfl) (by intro w l g it l0 t0 g0 b r tb tr n n' ad t1 g1 x; kernel_rfl)
theorem eqRunK:RunK ktL:=⟨eqRunK_def_,eqRunK_plain,eqRunK_seg,eqRunK_one,eqRunK_turn,eqRunK_out,eqRunK_last⟩
theorem eqWaysK:WaysK ktL where
 def_:=fun P=>by kernel_rfl
 all:=row2 (by intro w b2 x ad tk s t n; kernel_rfl) (by intro w b2 x ad tk s t n; kernel_rfl)
theorem eqPageK_def_:∀ P,(defAt (ktL P) 258).isSome=true:=fun P=>by kernel_rfl
theorem eqPageK_plain:∀ (w:World) g fr it,callerF (PC (ktL w.params) w g fr it)=false:=row2 (by intro w b2 g fr it; kernel_rfl) (by intro w b2 g fr it; kernel_rfl)
theorem eqPageK_begin_:∀ (w:World) ad tk told tt,(pgRunA (ktL w.params) w ad tk told tt).stq pgAF=some (pgAX w.params ad (pgY0 tk told tt) (PC (ktL w.params) w ad (ad 0) (ad 10)),[told.cps.all (·<128)=true,True,True,True],(pgRunA (ktL w.params) w ad tk told tt).l1,(pgRunA (ktL w.params) w ad tk told tt).l1,(pgRunA (ktL w.params) w ad tk told tt).s1,(pgRunA (ktL w.params) w ad tk told tt).s1):=row2 (by intro w b2 ad tk told tt; kernel_rfl) (by intro w b2 ad tk told tt; kernel_rfl)
theorem eqPageK_out:∀ (w:World) x g ad tk y c,(pgOR (ktL w.params) w x g ad tk y c).dn pgOF=some (pgOX w.params ad x (pgEnd y c),[],(pgOR (ktL w.params) w x g ad tk y c).l1,(pgOR (ktL w.params) w x g ad tk y c).l1,(pgOR (ktL w.params) w x g ad tk y c).s1,(pgOR (ktL w.params) w x g ad tk y c).s1):=row2 (by intro w b2 x g ad tk y c; kernel_rfl) (by intro w b2 x g ad tk y c; kernel_rfl)
theorem eqPageK_lastA:∀ (w:World) x g it tkA told tt ad tk y t u,(pgCa (ktL w.params) w x g it tkA told tt ad tk y t u).stq pgCF=some ((0,some ("str.split",x.L.l.sl 20,chNl)),pgCaO w ad tk x y t u,(pgCa (ktL w.params) w x g it tkA told tt ad tk y t u).l1,(pgCa (ktL w.params) w x g it tkA told tt ad tk y t u).l1,(pgCa (ktL w.params) w x g it tkA told tt ad tk y t u).s1,(pgCa (ktL w.params) w x g it tkA told tt ad tk y t u).s1):=row2 (by intro w b2 x g it tkA told tt ad tk y t u; kernel_rfl) (by intro w b2 x g it tkA told tt ad tk y t u; kernel_rfl)
theorem eqPageK_lastB:∀ (w:World) x g it tkA told tt ad tk y,(pgCb (ktL w.params) w x g it tkA told tt ad tk y).stq pgCF=some ((0,some ("str.split",x.L.l.sl 15,chNl)),pgCbO w ad tk x y,(pgCb (ktL w.params) w x g it tkA told tt ad tk y).l1,(pgCb (ktL w.params) w x g it tkA told tt ad tk y).l1,(pgCb (ktL w.params) w x g it tkA told tt ad tk y).s1,(pgCb (ktL w.params) w x g it tkA told tt ad tk y).s1):=row2 (by intro w b2 x g it tkA told tt ad tk y; kernel_rfl) (by intro w b2 x g it tkA told tt ad tk y; kernel_rfl)
theorem eqPageK_turn:∀ (w:World) x g ad tk b y,(pgNR (ktL w.params) w x g ad tk b y).agn pgF=some (pgNX w.params b ad tk x y (PC (ktL w.params) w g (ad 0) (ad 6)),pgNO (ktL w.params) w ad x y,(pgNR (ktL w.params) w x g ad tk b y).l1,(pgNR (ktL w.params) w x g ad tk b y).l1,(pgNR (ktL w.params) w x g ad tk b y).s1,(pgNR (ktL w.params) w x g ad tk b y).s1):=row2 (by intro w b2 x g ad tk b y; cases b <;> kernel_rfl) (by intro w b2 x g ad tk b y; cases b <;> kernel_rfl)
theorem eqPageK_nought:∀ (w:World) x g ad tk b y,(pgZR (ktL w.params) w x g ad tk b y).agn pgF=some (pgZX w.params b ad tk x y (PC (ktL w.params) w g (ad 0) (ad 6)),pgZO (ktL w.params) w ad tk x y,(pgZR (ktL w.params) w x g ad tk b y).l1,(pgZR (ktL w.params) w x g ad tk b y).l1,(pgZR (ktL w.params) w x g ad tk b y).s1,(pgZR (ktL w.params) w x g ad tk b y).s1):=row2 (by intro w b2 x g ad tk b y; cases b <;> kernel_rfl) (by intro w b2 x g ad tk b y; cases b <;> kernel_rfl)
theorem eqPageK_tailA:∀ (w:World) x g it tkA told tt ad tk y t u x0 ad2 tk2 v,(pgTail (ktL w.params) w x0 ad2 tk2 (pgCa (ktL w.params) w x g it tkA told tt ad tk y t u) (.ref v)).dn valOf2=some (some (.ref v),[],(pgTail (ktL w.params) w x0 ad2 tk2 (pgCa (ktL w.params) w x g it tkA told tt ad tk y t u) (.ref v)).l1,(pgTail (ktL w.params) w x0 ad2 tk2 (pgCa (ktL w.params) w x g it tkA told tt ad tk y t u) (.ref v)).l1,(pgTail (ktL w.params) w x0 ad2 tk2 (pgCa (ktL w.params) w x g it tkA told tt ad tk y t u) (.ref v)).s1,(pgTail (ktL w.params) w x0 ad2 tk2 (pgCa (ktL w.params) w x g it tkA told tt ad tk y t u) (.ref v)).s1):=row2 (by intro w b2 x g it tkA told tt ad tk y t u x0 ad2 tk2 v; kernel_rfl) (by intro w b2 x g it tkA told tt ad tk y t u x0 ad2 tk2 v; kernel_rfl)
theorem eqPageK_tailB:∀ (w:World) x g it tkA told tt ad tk y x0 ad2 tk2 v,(pgTail (ktL w.params) w x0 ad2 tk2 (pgCb (ktL w.params) w x g it tkA told tt ad tk y) (.ref v)).dn valOf2=some (some (.ref v),[],(pgTail (ktL w.params) w x0 ad2 tk2 (pgCb (ktL w.params) w x g it tkA told tt ad tk y) (.ref v)).l1,(pgTail (ktL w.params) w x0 ad2 tk2 (pgCb (ktL w.params) w x g it tkA told tt ad tk y) (.ref v)).l1,(pgTail (ktL w.params) w x0 ad2 tk2 (pgCb (ktL w.params) w x g it tkA told tt ad tk y) (.ref v)).s1,(pgTail (ktL w.params) w x0 ad2 tk2 (pgCb (ktL w.params) w x g it tkA told tt ad tk y) (.ref v)).s1):=row2 (by intro w b2 x g it tkA told tt ad tk y x0 ad2 tk2 v; kernel_rfl) (by intro w b2 x g it tkA told tt ad tk y x0 ad2 tk2 v; kernel_rfl)
theorem eqPageK:PageK ktL:=⟨eqPageK_def_,eqPageK_plain,eqPageK_begin_,eqPageK_out,eqPageK_lastA,eqPageK_lastB,eqPageK_turn,eqPageK_nought,eqPageK_tailA,eqPageK_tailB⟩
theorem eqLaw_def_:lw_def_ ktL:=fun P=>by kernel_rfl
theorem eqLaw_begin_:lw_begin_ ktL:=row4 (by intro w ad tk vs n; kernel_rfl) (by intro w ad tk vs n; kernel_rfl) (by intro w ad tk vs n; kernel_rfl) (by intro w ad tk vs n; kernel_rfl)
theorem eqLaw_g02:lw_g02 ktL:=row4 (by intro w x ad tk τ v n a b ta tb rest; kernel_rfl) (by intro w x ad tk τ v n a b ta tb rest; kernel_rfl) (by intro w x ad tk τ v n a b ta tb rest; kernel_rfl) (by intro w x ad tk τ v n a b ta tb rest; kernel_rfl)
theorem eqLaw_g01:lw_g01 ktL:=row4 (by intro w x ad tk τ v n a ta; kernel_rfl) (by intro w x ad tk τ v n a ta; kernel_rfl) (by intro w x ad tk τ v n a ta; kernel_rfl) (by intro w x ad tk τ v n a ta; kernel_rfl)
theorem eqLaw_g00:lw_g00 ktL:=row4 (by intro w x ad tk τ v n; kernel_rfl) (by intro w x ad tk τ v n; kernel_rfl) (by intro w x ad tk τ v n; kernel_rfl) (by intro w x ad tk τ v n; kernel_rfl)
theorem eqLaw_g1:lw_g1 ktL:=row4 (by intro w x ad tk τ v d f s tf ts nf ns; kernel_rfl) (by intro w x ad tk τ v d f s tf ts nf ns; kernel_rfl) (by intro w x ad tk τ v d f s tf ts nf ns; kernel_rfl) (by intro w x ad tk τ v d f s tf ts nf ns; kernel_rfl)
theorem eqLaw_ga:lw_ga ktL:=row4 (by intro w ad y; kernel_rfl) (by intro w ad y; kernel_rfl) (by intro w ad y; kernel_rfl) (by intro w ad y; kernel_rfl)
theorem eqLaw_gb:lw_gb ktL:=row4 (by intro w ad tk g y σ tσ; kernel_rfl) (by intro w ad tk g y σ tσ; kernel_rfl) (by intro w ad tk g y σ tσ; kernel_rfl) (by intro w ad tk g y σ tσ; kernel_rfl)
theorem eqLaw_gc:lw_gc ktL:=row4 (by intro w ad tk adb tkb g y σ tσ ρ tρ; kernel_rfl) (by intro w ad tk adb tkb g y σ tσ ρ tρ; kernel_rfl) (by intro w ad tk adb tkb g y σ tσ ρ tρ; kernel_rfl) (by intro w ad tk adb tkb g y σ tσ ρ tρ; kernel_rfl)
theorem eqLaw_gd:lw_gd ktL:=row4 (by intro w x ad tk τ v d n f s q r tn tf ts tq tr nn nf ns nq nr; kernel_rfl) (by intro w x ad tk τ v d n f s q r tn tf ts tq tr nn nf ns nq nr; kernel_rfl) (by intro w x ad tk τ v d n f s q r tn tf ts tq tr nn nf ns nq nr; kernel_rfl) (by intro w x ad tk τ v d n f s q r tn tf ts tq tr nn nf ns nq nr; kernel_rfl)
theorem eqLaw_g27:lw_g27 ktL:=row4 (by intro w x r ad tk τ v d c1 told tt; kernel_rfl) (by intro w x r ad tk τ v d c1 told tt; kernel_rfl) (by intro w x r ad tk τ v d c1 told tt; kernel_rfl) (by intro w x r ad tk τ v d c1 told tt; kernel_rfl)
theorem eqLaw_g26:lw_g26 ktL:=row4 (by intro w x r ad tk τ v d c1 told tt; kernel_rfl) (by intro w x r ad tk τ v d c1 told tt; kernel_rfl) (by intro w x r ad tk τ v d c1 told tt; kernel_rfl) (by intro w x r ad tk τ v d c1 told tt; kernel_rfl)
theorem eqLaw_g3:lw_g3 ktL:=row4 (by intro w x ad tk τ v d c1 told tt f u r tf tu tr nf nu nr; kernel_rfl) (by intro w x ad tk τ v d c1 told tt f u r tf tu tr nf nu nr; kernel_rfl) (by intro w x ad tk τ v d c1 told tt f u r tf tu tr nf nu nr; kernel_rfl) (by intro w x ad tk τ v d c1 told tt f u r tf tu tr nf nu nr; kernel_rfl)
theorem eqLaw_g4:lw_g4 ktL:=row4 (by intro w ad tk τ v d c1 z2 t2 z3 t3; kernel_rfl) (by intro w ad tk τ v d c1 z2 t2 z3 t3; kernel_rfl) (by intro w ad tk τ v d c1 z2 t2 z3 t3; kernel_rfl) (by intro w ad tk τ v d c1 z2 t2 z3 t3; kernel_rfl)
theorem eqLaw_f0:lw_f0 ktL:=row4 (by intro w ad tk y; kernel_rfl) (by intro w ad tk y; kernel_rfl) (by intro w ad tk y; kernel_rfl) (by intro w ad tk y; kernel_rfl)
theorem eqLaw_fplain:lw_fplain ktL:=row4 (by intro w ad; kernel_rfl) (by intro w ad; kernel_rfl) (by intro w ad; kernel_rfl) (by intro w ad; kernel_rfl)
theorem eqLaw_csplain:lw_csplain ktL:=row4 (by intro w ad; kernel_rfl) (by intro w ad; kernel_rfl) (by intro w ad; kernel_rfl) (by intro w ad; kernel_rfl)
theorem eqLaw_fn:lw_fn ktL:=row4 (by intro w x ad tk b y; cases b <;> kernel_rfl) (by intro w x ad tk b y; cases b <;> kernel_rfl) (by intro w x ad tk b y; cases b <;> kernel_rfl) (by intro w x ad tk b y; cases b <;> kernel_rfl)
theorem eqLaw_fz:lw_fz ktL:=row4 (by intro w x ad tk b y; cases b <;> kernel_rfl) (by intro w x ad tk b y; cases b <;> kernel_rfl) (by intro w x ad tk b y; cases b <;> kernel_rfl) (by intro w x ad tk b y; cases b <;> kernel_rfl)
theorem eqLaw_fe:lw_fe ktL:=row4 (by intro w ad tk y; kernel_rfl) (by intro w ad tk y; kernel_rfl) (by intro w ad tk y; kernel_rfl) (by intro w ad tk y; kernel_rfl)
theorem eqLaw_g4b:lw_g4b ktL:=row4 (by intro w g tk0 τ0 v0 i0 d1 y2 u2 y3 u3 ad tk τ v d c1 z2 t2 z3 t3 vs nv t kv tv; kernel_rfl) (by intro w g tk0 τ0 v0 i0 d1 y2 u2 y3 u3 ad tk τ v d c1 z2 t2 z3 t3 vs nv t kv tv; kernel_rfl) (by intro w g tk0 τ0 v0 i0 d1 y2 u2 y3 u3 ad tk τ v d c1 z2 t2 z3 t3 vs nv t kv tv; kernel_rfl) (by intro w g tk0 τ0 v0 i0 d1 y2 u2 y3 u3 ad tk τ v d c1 z2 t2 z3 t3 vs nv t kv tv; kernel_rfl)
theorem eqLaw_g5:lw_g5 ktL:=row4 (by intro w x ad tk τ v d c1 z2 t2 z3 t3 vs nv; kernel_rfl) (by intro w x ad tk τ v d c1 z2 t2 z3 t3 vs nv; kernel_rfl) (by intro w x ad tk τ v d c1 z2 t2 z3 t3 vs nv; kernel_rfl) (by intro w x ad tk τ v d c1 z2 t2 z3 t3 vs nv; kernel_rfl)
theorem eqLaw_h0:lw_h0 ktL:=row4 (by intro w ad tk y; kernel_rfl) (by intro w ad tk y; kernel_rfl) (by intro w ad tk y; kernel_rfl) (by intro w ad tk y; kernel_rfl)
theorem eqLaw_hplain:lw_hplain ktL:=row4 (by intro w ad; kernel_rfl) (by intro w ad; kernel_rfl) (by intro w ad; kernel_rfl) (by intro w ad; kernel_rfl)
theorem eqLaw_chplain:lw_chplain ktL:=row4 (by intro w ad; kernel_rfl) (by intro w ad; kernel_rfl) (by intro w ad; kernel_rfl) (by intro w ad; kernel_rfl)
theorem eqLaw_hn:lw_hn ktL:=row4 (by intro w x ad tk b y; cases b <;> kernel_rfl) (by intro w x ad tk b y; cases b <;> kernel_rfl) (by intro w x ad tk b y; cases b <;> kernel_rfl) (by intro w x ad tk b y; cases b <;> kernel_rfl)
theorem eqLaw_hz:lw_hz ktL:=row4 (by intro w x ad tk b y; cases b <;> kernel_rfl) (by intro w x ad tk b y; cases b <;> kernel_rfl) (by intro w x ad tk b y; cases b <;> kernel_rfl) (by intro w x ad tk b y; cases b <;> kernel_rfl)
theorem eqLaw_he:lw_he ktL:=row4 (by intro w ad tk y; kernel_rfl) (by intro w ad tk y; kernel_rfl) (by intro w ad tk y; kernel_rfl) (by intro w ad tk y; kernel_rfl)
theorem eqLaw_g5b:lw_g5b ktL:=row4 (by intro w x0 g tk0 τ0 v0 i0 d1 y2 u2 y3 u3 ws0 nw0 ad tk τ v d c1 z2 t2 z3 t3 vs nv ws nw t kv tv; kernel_rfl) (by intro w x0 g tk0 τ0 v0 i0 d1 y2 u2 y3 u3 ws0 nw0 ad tk τ v d c1 z2 t2 z3 t3 vs nv ws nw t kv tv; kernel_rfl) (by intro w x0 g tk0 τ0 v0 i0 d1 y2 u2 y3 u3 ws0 nw0 ad tk τ v d c1 z2 t2 z3 t3 vs nv ws nw t kv tv; kernel_rfl) (by intro w x0 g tk0 τ0 v0 i0 d1 y2 u2 y3 u3 ws0 nw0 ad tk τ v d c1 z2 t2 z3 t3 vs nv ws nw t kv tv; kernel_rfl)
theorem eqLawK:LawK ktL:=⟨eqLaw_def_,eqLaw_begin_,eqLaw_g02,eqLaw_g01,eqLaw_g00,eqLaw_g1,eqLaw_ga,eqLaw_gb,eqLaw_gc,eqLaw_gd,eqLaw_g27,eqLaw_g26,eqLaw_g3,eqLaw_g4,eqLaw_f0,eqLaw_fplain,eqLaw_csplain,eqLaw_fn,eqLaw_fz,eqLaw_fe,eqLaw_g4b,eqLaw_g5,eqLaw_h0,eqLaw_hplain,eqLaw_chplain,eqLaw_hn,eqLaw_hz,eqLaw_he,eqLaw_g5b⟩
theorem eqLuma:LumaK ktL:=row2 (by intro w b2 l ad t0 g0 a ta n; kernel_rfl) (by intro w b2 l ad t0 g0 a ta n; kernel_rfl)
theorem eqT0:TurnedEq ktL tp0:=row4 (by intro w l ad t0 g0 a ta n; kernel_rfl) (by intro w l ad t0 g0 a ta n; kernel_rfl) (by intro w l ad t0 g0 a ta n; kernel_rfl) (by intro w l ad t0 g0 a ta n; kernel_rfl)
theorem eqT1:TurnedEq ktL tp1:=row4 (by intro w l ad t0 g0 a ta n; kernel_rfl) (by intro w l ad t0 g0 a ta n; kernel_rfl) (by intro w l ad t0 g0 a ta n; kernel_rfl) (by intro w l ad t0 g0 a ta n; kernel_rfl)
theorem eqT2:TurnedEq ktL tp2:=row4 (by intro w l ad t0 g0 a ta n; kernel_rfl) (by intro w l ad t0 g0 a ta n; kernel_rfl) (by intro w l ad t0 g0 a ta n; kernel_rfl) (by intro w l ad t0 g0 a ta n; kernel_rfl)
theorem eqT3:TurnedEq ktL tp3:=row4 (by intro w l ad t0 g0 a ta n; kernel_rfl) (by intro w l ad t0 g0 a ta n; kernel_rfl) (by intro w l ad t0 g0 a ta n; kernel_rfl) (by intro w l ad t0 g0 a ta n; kernel_rfl)
theorem eqT4:TurnedEq ktL tp4:=row4 (by intro w l ad t0 g0 a ta n; kernel_rfl) (by intro w l ad t0 g0 a ta n; kernel_rfl) (by intro w l ad t0 g0 a ta n; kernel_rfl) (by intro w l ad t0 g0 a ta n; kernel_rfl)
theorem eqT5:TurnedEq ktL tp5:=row4 (by intro w l ad t0 g0 a ta n; kernel_rfl) (by intro w l ad t0 g0 a ta n; kernel_rfl) (by intro w l ad t0 g0 a ta n; kernel_rfl) (by intro w l ad t0 g0 a ta n; kernel_rfl)
theorem eqT6:TurnedEq ktL tp6:=row4 (by intro w l ad t0 g0 a ta n; kernel_rfl) (by intro w l ad t0 g0 a ta n; kernel_rfl) (by intro w l ad t0 g0 a ta n; kernel_rfl) (by intro w l ad t0 g0 a ta n; kernel_rfl)
theorem eqT7:TurnedEq ktL tp7:=row4 (by intro w l ad t0 g0 a ta n; kernel_rfl) (by intro w l ad t0 g0 a ta n; kernel_rfl) (by intro w l ad t0 g0 a ta n; kernel_rfl) (by intro w l ad t0 g0 a ta n; kernel_rfl)
theorem eqT8:TurnedEq ktL tp8:=row4 (by intro w l ad t0 g0 a ta n; kernel_rfl) (by intro w l ad t0 g0 a ta n; kernel_rfl) (by intro w l ad t0 g0 a ta n; kernel_rfl) (by intro w l ad t0 g0 a ta n; kernel_rfl)
theorem eqT9:TurnedEq ktL tp9:=row4 (by intro w l ad t0 g0 a ta n; kernel_rfl) (by intro w l ad t0 g0 a ta n; kernel_rfl) (by intro w l ad t0 g0 a ta n; kernel_rfl) (by intro w l ad t0 g0 a ta n; kernel_rfl)
theorem eqT10:TurnedEq ktL tp10:=row4 (by intro w l ad t0 g0 a ta n; kernel_rfl) (by intro w l ad t0 g0 a ta n; kernel_rfl) (by intro w l ad t0 g0 a ta n; kernel_rfl) (by intro w l ad t0 g0 a ta n; kernel_rfl)
theorem eqT11:TurnedEq ktL tp11:=row4 (by intro w l ad t0 g0 a ta n; kernel_rfl) (by intro w l ad t0 g0 a ta n; kernel_rfl) (by intro w l ad t0 g0 a ta n; kernel_rfl) (by intro w l ad t0 g0 a ta n; kernel_rfl)
theorem eqT12:TurnedEq ktL tp12:=row4 (by intro w l ad t0 g0 a ta n; kernel_rfl) (by intro w l ad t0 g0 a ta n; kernel_rfl) (by intro w l ad t0 g0 a ta n; kernel_rfl) (by intro w l ad t0 g0 a ta n; kernel_rfl)
theorem eqT13:TurnedEq ktL tp13:=row4 (by intro w l ad t0 g0 a ta n; kernel_rfl) (by intro w l ad t0 g0 a ta n; kernel_rfl) (by intro w l ad t0 g0 a ta n; kernel_rfl) (by intro w l ad t0 g0 a ta n; kernel_rfl)
theorem eqT14:TurnedEq ktL tp14:=row4 (by intro w l ad t0 g0 a ta n; kernel_rfl) (by intro w l ad t0 g0 a ta n; kernel_rfl) (by intro w l ad t0 g0 a ta n; kernel_rfl) (by intro w l ad t0 g0 a ta n; kernel_rfl)
theorem eqT15:TurnedEq ktL tp15:=row4 (by intro w l ad t0 g0 a ta n; kernel_rfl) (by intro w l ad t0 g0 a ta n; kernel_rfl) (by intro w l ad t0 g0 a ta n; kernel_rfl) (by intro w l ad t0 g0 a ta n; kernel_rfl)
theorem eqT16:TurnedEq ktL tp16:=row4 (by intro w l ad t0 g0 a ta n; kernel_rfl) (by intro w l ad t0 g0 a ta n; kernel_rfl) (by intro w l ad t0 g0 a ta n; kernel_rfl) (by intro w l ad t0 g0 a ta n; kernel_rfl)
theorem eqT17:TurnedEq ktL tp17:=row4 (by intro w l ad t0 g0 a ta n; kernel_rfl) (by intro w l ad t0 g0 a ta n; kernel_rfl) (by intro w l ad t0 g0 a ta n; kernel_rfl) (by intro w l ad t0 g0 a ta n; kernel_rfl)
theorem all_consP {α:Type} {P:α->Prop} {a:α} {l:List α} (h:P a) (t:∀ q∈l,P q):∀ q∈a::l,P q:=fun _ m=>(List.mem_cons.mp m).elim (fun e=>e ▸ h) (t _)
theorem eqTurned:∀ p∈turnedPs,TurnedEq ktL p:=by
 unfold turnedPs
 refine all_consP eqT0 ?_
 refine all_consP eqT1 ?_
 refine all_consP eqT2 ?_
 refine all_consP eqT3 ?_
 refine all_consP eqT4 ?_
 refine all_consP eqT5 ?_
 refine all_consP eqT6 ?_
 refine all_consP eqT7 ?_
 refine all_consP eqT8 ?_
 refine all_consP eqT9 ?_
 refine all_consP eqT10 ?_
 refine all_consP eqT11 ?_
 refine all_consP eqT12 ?_
 refine all_consP eqT13 ?_
 refine all_consP eqT14 ?_
 refine all_consP eqT15 ?_
 refine all_consP eqT16 ?_
 refine all_consP eqT17 ?_
 exact fun _ h=>nomatch h
theorem eqD225 (P:Params):(defAt (ktL P) 225).isSome=true:=by kernel_rfl
theorem eqD239 (P:Params):(defAt (ktL P) 239).isSome=true:=by kernel_rfl
section
open PySem.W.ZRun
noncomputable def lawLoose:List Str:=PySem.Challenge.pw_tr0064_01.boundNames.dropLast
noncomputable def leftP (b:Bool):Prop:=∀ w:World,(fencedOpening treeTable PySem.Challenge.pw_tr0064_01 w 7000).map (fun s₀=>(topFrom treeTable PySem.Challenge.pw_tr0064_01 (w.withFollow "special-get-raises" b) 7000 s₀).map (fun s=>(openSeen (view PySem.Challenge.pw_tr0064_01 [74]) lawLoose (importedModules PySem.Challenge.pw_tr0064_01.main.body) (fun _=>true) true s,obsZ kAs s)))=some (some (openGood (view PySem.Challenge.pw_tr0064_01 [74]) lawLoose,valZ kTop 271 735 (w.withFollow "special-get-raises" b)))
theorem left_false:leftP false:=by
 unfold leftP fencedOpening topFrom
 rw [PySem.W.Fast.te10274390034422433532,PySem.W.Fast.te1435165496053646825,PySem.W.Fast.te14289696077712309145,PySem.W.Fast.te14082659384304107361,PySem.W.Fast.te14364793385576792824,PySem.W.Fast.te4187177175401517315,PySem.W.Fast.te5923862056798008813]
 intro w
 kernel_rfl
theorem left_true:leftP true:=by
 unfold leftP fencedOpening topFrom
 rw [PySem.W.Fast.te10274390034422433532,PySem.W.Fast.te1435165496053646825,PySem.W.Fast.te14289696077712309145,PySem.W.Fast.te14082659384304107361,PySem.W.Fast.te14364793385576792824,PySem.W.Fast.te4187177175401517315,PySem.W.Fast.te5923862056798008813]
 intro w
 kernel_rfl
end
section
open PySem.W.ZRun
theorem withFollow_both {α:Type} {f:Option Shared} {g:Bool->Shared->α} {x y:α} (h1:f.map (g false)=some x) (h2:f.map (g true)=some y):f.map (fun s=>(g false s,g true s))=some (x,y):=by
 cases f with
 | none=>cases h1
 | some s =>
  have e1:=Option.some.inj h1
  have e2:=Option.some.inj h2
  exact congrArg some (Prod.ext e1 e2)
theorem law_left:LeftO PySem.Challenge.pw_tr0064_01 (view PySem.Challenge.pw_tr0064_01 [74]) lawLoose (fun _=>true) (obsZ kAs) (valZ kTop 271 735) 7000 :=
 LeftO.of_split "special-get-raises" fun w=>withFollow_both (g:=fun b s₀=>(topFrom treeTable PySem.Challenge.pw_tr0064_01 (w.withFollow "special-get-raises" b) 7000 s₀).map (fun s=>(openSeen (view PySem.Challenge.pw_tr0064_01 [74]) lawLoose (importedModules PySem.Challenge.pw_tr0064_01.main.body) (fun _=>true) true s,obsZ kAs s))) (left_false w) (left_true w)
theorem tabAt {h:Heap} {c P:Nat} {o:Obj} {vs:Array Value} (e:h.get? c=some o) (ho:o = { o with cls:=.type "code",data:=.fields vs }) (hv:vs[11]? = some (.ref P)):isCodeTable h P:=⟨c,o,vs,e,by rw [ho],by rw [ho],hv⟩
theorem lawKs (w:World):LawKs ktL w:=⟨eqTimesK,eqTurned,eqD225,eqLuma,eqD239,eqPlumaK,eqRunK,eqGenK,eqLenK,eqPageK,eqWaysK,tabK w⟩
theorem law_end {w:World} {h h':Heap} {pa:Nat} {vs:List Value} (H:KT.Holds h 1 0 (ktL w.params)) (h1:h.get? 168=some (oPair [])) (h2:h.get? 175=some (oPair [])) (hp:pa=271) (hz:h.objs.size=272) (e:h.get? pa=some (oList vs 0)) (e':h'.get? pa=some (oList vs 0))
 (c1:Ca1 h') (c2:Ca2 h') (k:∀ (b:Nat) o,b<271->b ≠ 168->b ≠ 175->h.get? b=some o->h'.get? b=some o):OldK h h':=by
 have c172:h.get? 172=some oz172:=kt_at H (by kernel_rfl)
 have c179:h.get? 179=some oz179:=kt_at H (by kernel_rfl)
 have t1:isCodeTable h 168:=tabAt (vs:=match oz172.data with | .fields vs=>vs | _=>#[]) c172 (by kernel_rfl) (by kernel_rfl)
 have t2:isCodeTable h 175:=tabAt (vs:=match oz179.data with | .fields vs=>vs | _=>#[]) c179 (by kernel_rfl) (by kernel_rfl)
 refine ⟨fun b o eb=>?_,fun b o eb=>?_⟩
 · by_cases q1:b=168
   · subst q1
     rw [h1] at eb
     cases eb
     rcases c1 with x | ⟨t,u,c,x⟩
     · exact .inl x
     · exact .inr (.inl ⟨t1,rfl,#[],#[.int 119 t,.int 19 u,.ref c],rfl,x⟩)
   · by_cases q2:b=175
     · subst q2
       rw [h2] at eb
       cases eb
       rcases c2 with x | ⟨t,u,c,x⟩
       · exact .inl x
       · exact .inr (.inl ⟨t2,rfl,#[],#[.int 122 t,.int 32 u,.ref c],rfl,x⟩)
     · by_cases q3:b=271
       · subst q3
         rw [hp] at e e'
         rw [e] at eb
         exact .inl (e'.trans eb)
       · have hb:@LT.lt Nat _ b 272:=hz ▸ Heap.lt_size eb
         exact .inl (k b o (Nat.lt_of_le_of_ne (Nat.le_of_lt_succ hb) q3) q1 q2 eb)
 · by_cases q1:b=168
   · subst q1
     rcases c1 with x | ⟨t,u,c,x⟩ <;> exact ⟨_,x⟩
   · by_cases q2:b=175
     · subst q2
       rcases c2 with x | ⟨t,u,c,x⟩ <;> exact ⟨_,x⟩
     · by_cases q3:b=271
       · subst q3
         rw [hp] at e'
         exact ⟨_,e'⟩
       · have hb:@LT.lt Nat _ b 272:=hz ▸ Heap.lt_size eb
         exact ⟨o,k b o (Nat.lt_of_le_of_ne (Nat.le_of_lt_succ hb) q3) q1 q2 eb⟩
theorem holds_t {h:Heap} {K:Frag} {t:KT} (e:KT.of K=t) (z:AllIn h K):KT.Holds h 1 0 t:=e ▸ PySem.W.X.holds_of z
theorem holds_ktL {h:Heap} {P:Params} (z:AllIn h (kRest P)):KT.Holds h 1 0 (ktL P):=holds_t (kt_of P) z
theorem allIn_cons {h:Heap} {p:Addr×Obj} {K:Frag} (x:AllIn h (p::K)):h.get? p.1=some p.2∧AllIn h K:=x
theorem top_facts1 {h:Heap} {P:Params} (z:AllIn h (kTop P)):AllIn h ((168,oz168)::(175,oz175)::kRest P):=z
theorem top_facts2 {h:Heap} {P:Params} (z:AllIn h ((168,oz168)::(175,oz175)::kRest P)):h.get? 168=some oz168∧h.get? 175=some oz175∧AllIn h (kRest P):=⟨(allIn_cons z).1,(allIn_cons (allIn_cons z).2).1,(allIn_cons (allIn_cons z).2).2⟩
theorem o1:oz168=oPair []:=by kernel_rfl
theorem o2:oz175=oPair []:=by kernel_rfl
theorem top_facts {h:Heap} {P:Params} (z:AllIn h (kTop P)):h.get? 168=some (oPair [])∧h.get? 175=some (oPair [])∧KT.Holds h 1 0 (ktL P) :=
 ⟨o1 ▸ (top_facts2 (top_facts1 z)).1,o2 ▸ (top_facts2 (top_facts1 z)).2.1,holds_ktL (top_facts2 (top_facts1 z)).2.2⟩
theorem law_walk {d:DefRec} {kwd:List (Str×Expr)} (hname:d.name=Str.ofString "law"):WalkX (view PySem.Challenge.pw_tr0064_01 [74]) lawLoose (fun _ _=>True) (obsZ kAs) (valZ kTop 271 735) PySem.Challenge.rw_tr0064_01.row.toRowW d kwd (fun f vs=>PySem.call f vs):=by
 intro w s₀ s₁ mg mb G Y fa o pm cd doc dV kV _ _ _ _ hmg hg args vals as L hpre hlay hrd hwl hlo
 have T:=G.T
 clear G
 wrow_args hpre hlay hrd hwl hlo
 rename_i ns hs hlay0 hL1 hr1 hl2 a4 a3 pa vs ws hL ra w1 r0 hI hr hcond1 hcond2
 obtain ⟨zA,zI,zN,zT⟩:=z_facts kas_of Y
 have KX:Frag.In (kTop w.params) s₁.heap:=InK.keeps w s₀.heap s₁.heap zI L.keeps
 have hfa:mg (Str.ofString "law")=some (.ref 270):=mg_of KX T.g (by kernel_rfl)
 rw [hname,hfa] at hmg
 cases hmg
 obtain ⟨hat,hsz⟩:=script_at L
 rw [zN] at hat hsz
 have ob:s₁.heap.get? pa=some (oList vs 0):=script_obj L hL
 obtain ⟨a1,a2,H0⟩:=top_facts zA
 have H1:=KT.Holds.keeps L.keeps H0
 have a1:=L.keeps _ _ a1
 have a2:=L.keeps _ _ a2
 letI:Bs:=⟨s₁.heap,271⟩
 have top:TopOk (ktL w.params) 271:=by
  refine ⟨by kernel_rfl,by kernel_rfl,by decide,Nat.le_refl _,fun a x e=>?_,fun h H=>?_⟩
  · have:=Heap.lt_size (kt_at H0 e)
    rw [zN] at this
    exact this
  · refine T.nolimit.at fun o e=>?_
    have e1:=kt_at H1 (a:=cStatics) (o:=oz2) (by kernel_rfl)
    rw [e1] at e
    cases e
    exact kt_at H (by kernel_rfl)
 have C:CxL ktL w 271 callerA s₁:=⟨lawKs w,top,rfl,by decide +kernel,by decide +kernel,H1,by rw [hsz]; decide,⟨⟨.inl a1,.inl a2⟩,fun _ _ _ _ _ e=>e,AllBare.of_eq hg⟩⟩
 have hlen:vs.length≤63:=by
  have:=hI.length
  omega
 refine wpAny_call (law_c eqLawK C (by decide +kernel) (by decide +kernel) ob (Nat.le_of_eq hat.symm) hI hlen fac_all ?_)
 intro h' G' t' eh C'
 have iv:=C'.inv
 exact ⟨.inl ⟨_,_,[],rfl,fun _=>rfl,ReadsW.bool true,(by first | rfl | wrow_post),fun _=>⟨List.nodup_nil,fun _ hm=>(nomatch hm)⟩⟩,law_end H1 a1 a2 hat hsz ob eh iv.1.1 iv.1.2 iv.2.1,rfl,iv.2.2⟩
end
end Mine
set_option maxRecDepth 100000 in
set_option maxHeartbeats 4000000 in
open PySem PySem.W PySem.W.X PyProof.Rows PySem.W.ZRun Mine in
theorem PySem.Challenge.cw_tr0064_01_holds : PySem.Challenge.rw_tr0064_01.Holds := by
  w_on
  refine holds_law (by kernel_rfl) fun said => ?_
  refine holds_openX (q := view PySem.Challenge.pw_tr0064_01 [74]) (loose := lawLoose) (Xt := fun _ => true) (XP := fun _ _ => True) (Yf := obsZ kAs) (Ya := valZ kTop 271 735) (N := 7000) law_left (fun _ _ => trivial) (fun _ _ _ _ _ => trivial) (by rfl) (by rfl) (by rfl) (fun _ _ => recFacts_nil rfl) (by rfl) (by assumption) ?ok ?hb ?hw ?hc
  case ok => decide +kernel
  case hb => exact ⟨rfl, rfl, rfl, rfl, rfl, by decide +kernel⟩
  case hw => w_witness2
  case hc => exact law_walk rfl
